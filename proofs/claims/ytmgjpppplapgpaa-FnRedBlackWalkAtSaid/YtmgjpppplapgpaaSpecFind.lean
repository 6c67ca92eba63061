/-
  The reference's OrderOk, Find, Floor and Ceiling.
-/
import Derived.Test.YtmgjpppplapgpaaRegApp
namespace Go.Proofs.Ytmgjpppplapgpaa
open Go.RowKit

theorem fine_yes (o : Ord) (h : o.fine) (w : World) : Calls Try.prog 33 #[.agg #[.int .i64 o.kind, .int .i64 o.m]] w fun e w' => e = .returned (.bool true) ∧ w.alloc (.cells #[.int .i64 o.kind, .int .i64 o.m] 23) = w' := by
  obtain ⟨k, m⟩ := o
  rcases h with h | h | ⟨h, h1, h2⟩
  · simp only at h; subst h
    go_enter Try.func33, Try.ntmps33
    go_wp2_with fail
    go_ret
    exact ⟨rfl, rfl⟩
  · simp only at h; subst h
    go_enter Try.func33, Try.ntmps33
    go_wp2_with fail
    go_ret
    exact ⟨rfl, rfl⟩
  · simp only at h h1 h2; subst h
    have d1 : decide ((1 : Int) ≤ m) = true := decide_eq_true h1
    have d2 : decide (m ≤ (1000 : Int)) = true := decide_eq_true h2
    go_enter Try.func33, Try.ntmps33
    go_wp2_with fail
    go_ret
    exact ⟨rfl, rfl⟩
theorem fine_no (o : Ord) (h : ¬ o.fine) (w : World) : Calls Try.prog 33 #[.agg #[.int .i64 o.kind, .int .i64 o.m]] w fun e w' => e = .returned (.bool false) ∧ w.alloc (.cells #[.int .i64 o.kind, .int .i64 o.m] 23) = w' := by
  obtain ⟨k, m⟩ := o
  simp only [Ord.fine, not_or, not_and] at h
  obtain ⟨n0, n1, n2⟩ := h
  have h0 : (k == 0) = false := by simpa using n0
  have h1 : (k == 1) = false := by simpa using n1
  by_cases hk : k = 2
  · subst hk
    by_cases hm : (1 : Int) ≤ m
    · have d1 : decide ((1 : Int) ≤ m) = true := decide_eq_true hm
      have d2 : decide (m ≤ (1000 : Int)) = false := decide_eq_false (fun e => n2 rfl hm e)
      clear n0 n1 n2 hm h0 h1
      go_enter Try.func33, Try.ntmps33
      go_wp2_with fail
      go_ret
      exact ⟨rfl, rfl⟩
    · have d1 : decide ((1 : Int) ≤ m) = false := decide_eq_false hm
      clear n0 n1 n2 hm h0 h1
      go_enter Try.func33, Try.ntmps33
      go_wp2_with fail
      go_ret
      exact ⟨rfl, rfl⟩
  · have h2 : (k == 2) = false := by simpa using hk
    clear n0 n1 n2 hk
    go_enter Try.func33, Try.ntmps33
    go_wp2_with fail
    go_ret
    exact ⟨rfl, rfl⟩

/-- A pair, and whether there is one. -/
def pairV : Option (Int × Int) → Value
  | some p => .tuple #[.agg #[.int .i64 p.1, .int .i64 p.2], .bool true]
  | none => .tuple #[.agg #[.int .i64 0, .int .i64 0], .bool false]
def floorP (o : Ord) (k : Int) (l : KV) : Option (Int × Int) := if hasK o k l then l[plc o k l]? else if plc o k l = 0 then none else l[plc o k l - 1]?
def ceilP (o : Ord) (k : Int) (l : KV) : Option (Int × Int) := l[plc o k l]?

/-- The two blocks that such a call makes first, in whatever world comes behind. -/
structure Two (w0 w : World) (o : Ord) : Prop where
  ob : Blk w w0.heap.size 23 #[.int .i64 o.kind, .int .i64 o.m]
  rb : Blk w (w0.heap.size + 1) 48 #[.int .i64 0, .int .i64 0]
  bel : Below w0.heap.size w0 w
theorem Two.init (w : World) (o : Ord) : Two w ((w.alloc (.cells #[.int .i64 o.kind, .int .i64 o.m] 23)).alloc (.cells #[.int .i64 0, .int .i64 0] 48)) o :=
  ⟨Blk.alloc (Blk.new _ _ _) _, Blk.newAt (by simp) _ _, ((Below.refl _ _).alloc (Nat.le_refl _) _).alloc (by simp) _⟩
theorem Two.on {w0 w w' : World} {o : Ord} (h : Two w0 w o) (b : Below w.heap.size w w') : Two w0 w' o := ⟨h.ob.below b h.ob.lt, h.rb.below b h.rb.lt, h.bel.trans (b.mono h.bel.size)⟩
theorem Two.cells {w0 w : World} {o : Ord} (h : Two w0 w o) : w.cell? ⟨w0.heap.size, 0, none⟩ = some (.int .i64 o.kind) ∧ w.cell? ⟨w0.heap.size, 1, none⟩ = some (.int .i64 o.m) := ⟨h.ob.cell 0, h.ob.cell 1⟩
theorem Two.res {w0 w : World} {o : Ord} (h : Two w0 w o) : w.cell? ⟨w0.heap.size + 1, 0, none⟩ = some (.int .i64 0) ∧ w.cell? ⟨w0.heap.size + 1, 1, none⟩ = some (.int .i64 0) ∧ (∀ j, w.frozen? ⟨w0.heap.size + 1, j, none⟩ = false) := ⟨h.rb.cell 0, h.rb.cell 1, h.rb.frozen⟩

theorem results_row_tmp {P : Program} {fn : Func} {p u : Tmp} {ty : TypeId} (h : fn.results = #[.cell p ty, .tmp u]) (tmps : Array Value) (w : World) (g : Nat) (t : TypeId) (cs : Array Value) (fr : Nat × Nat) (d : TypeDesc) (x : Value)
    (hp : tmps.getD p undef = .pointer (some ⟨g, 0, none⟩)) (hx : tmps.getD u undef = x) (hg : w.heap[g]? = some (.cells cs t fr))
    (hu : P.underlying ty = some d) (hd : (match d with | .struct _ | .array _ _ => true | _ => false) = true) (hi : (P.info? ty).map (·.size) = some cs.size) :
    (results fn tmps).run P w = .ok (.tuple #[.agg cs, x]) w := by
  have hp' : tmps[p]?.getD undef = .pointer (some ⟨g, 0, none⟩) := by simpa using hp
  have hx' : tmps[u]?.getD undef = x := by simpa using hx
  simp [results, h, hp', hx', asAddr, run_loadVar_row w g t ty cs fr d hg hu hd hi]
theorem pair_size : (Try.prog.info? 48).map (·.size) = some 2 := by kernel_rfl
/-- The end of such a call. -/
theorem Two.stored {w0 w : World} {o : Ord} (h : Two w0 w o) (x y : Value) : Blk ((w.setCell ⟨w0.heap.size + 1, 0, none⟩ x).setCell ⟨w0.heap.size + 1, 1, none⟩ y) (w0.heap.size + 1) 48 #[x, y] ∧
    Below w0.heap.size w0 ((w.setCell ⟨w0.heap.size + 1, 0, none⟩ x).setCell ⟨w0.heap.size + 1, 1, none⟩ y) :=
  ⟨Blk.set_ (Blk.set_ h.rb 0 x) 1 y, (h.bel.setCell (p := ⟨w0.heap.size + 1, 0, none⟩) (Nat.le_succ _) _).setCell (p := ⟨w0.heap.size + 1, 1, none⟩) (Nat.le_succ _) _⟩

set_option maxRecDepth 100000 in
theorem ceil_walk (o : Ord) (ho : o.fine) (k : Int) (n cap : Nat) (A : Option Addr) (l : KV) (w : World) (hn : l.length = n) (hn1 : n ≤ 100000) (hr : RowAt w w.heap.size A (prCells l)) :
    Calls Try.prog 40 #[.agg #[.int .i64 o.kind, .int .i64 o.m], .slice A n cap, .int .i64 k] w fun e w' => e = .returned (pairV (ceilP o k l)) ∧ Below w.heap.size w w' := by
  have hle := plc_le o k l
  have t0 := Two.init w o
  have ca := fun w1 h => at_walk o ho k n cap A l w1 hn hn1 h
  obtain ⟨hc0, hc1⟩ := t0.cells
  have T0 := Lib.hid t0
  have CA := Lib.hid ca
  have HR := Lib.hid hr
  rcases Nat.lt_or_ge (plc o k l) n with hlt | hge
  · obtain ⟨p, hp⟩ : ∃ p, l[plc o k l]? = some p := ⟨_, List.getElem?_eq_getElem (by omega)⟩
    have hcp : ceilP o k l = some p := hp
    rw [hcp]
    have pr := fun w1 (b : Below w.heap.size w w1) => (hr.below b).pair hp
    generalize plc o k l = j at *
    have PR := Lib.hid pr
    have h1 : (j == n) = false := by simp; omega
    have h2 : (j : Int) < (n : Int) := by omega
    have h3 : ((j : Int) == (n : Int)) = false := by simp; omega
    clear t0 ca hr hp hcp hle hn pr hlt
    go_enter Try.func40, Try.ntmps40
    go_wp2_with fail
    refine (CA.out _ ((HR.out.below T0.out.bel).more T0.out.bel.size)).mono ?_
    rintro e w1 ⟨rfl, b1⟩
    have T1 := Lib.hid (T0.out.on b1)
    obtain ⟨a, rfl, _, hp0, hp1⟩ := PR.out _ T1.out.bel
    obtain ⟨hr0, hr1, hrf⟩ := T1.out.res
    clear b1 hc0 hc1
    go_wp2_with fail
    obtain ⟨f1, f2⟩ := T1.out.stored (.int .i64 p.1) (.int .i64 p.2)
    exact bodyPost_ret (results_row_tmp rfl _ _ (w.heap.size + 1) _ _ (0, 0) _ _ rfl rfl f1 Try.underlying48 rfl pair_size) rfl ⟨rfl, f2⟩
  · have hcp : ceilP o k l = none := List.getElem?_eq_none (by omega)
    rw [hcp]
    have hj : plc o k l = n := by omega
    have h1 : (plc o k l == n) = true := by simp; omega
    have h3 : (((plc o k l : Nat) : Int) == (n : Int)) = true := by simp; omega
    generalize plc o k l = j at *
    clear t0 ca hr hcp hle hn hge hj
    go_enter Try.func40, Try.ntmps40
    go_wp2_with fail
    refine (CA.out _ ((HR.out.below T0.out.bel).more T0.out.bel.size)).mono ?_
    rintro e w1 ⟨rfl, b1⟩
    have T1 := Lib.hid (T0.out.on b1)
    obtain ⟨hr0, hr1, hrf⟩ := T1.out.res
    clear b1 hc0 hc1
    go_wp2_with fail
    obtain ⟨f1, f2⟩ := T1.out.stored (.int .i64 0) (.int .i64 0)
    exact bodyPost_ret (results_row_tmp rfl _ _ (w.heap.size + 1) _ _ (0, 0) _ _ rfl rfl f1 Try.underlying48 rfl pair_size) rfl ⟨rfl, f2⟩

set_option maxRecDepth 100000 in
theorem find_walk (o : Ord) (ho : o.fine) (k : Int) (n cap : Nat) (A : Option Addr) (l : KV) (w : World) (hn : l.length = n) (hn1 : n ≤ 100000) (hr : RowAt w w.heap.size A (prCells l)) :
    Calls Try.prog 37 #[.agg #[.int .i64 o.kind, .int .i64 o.m], .slice A n cap, .int .i64 k] w fun e w' => e = .returned (pairV (look o k l)) ∧ Below w.heap.size w w' := by
  have hle := plc_le o k l
  have hlk := look_plc o k l
  have t0 := Two.init w o
  have ca := fun w1 h => at_walk o ho k n cap A l w1 hn hn1 h
  have ch := fun w1 h => has_walk o ho k n cap A l w1 hn h
  obtain ⟨hc0, hc1⟩ := t0.cells
  have T0 := Lib.hid t0
  have CA := Lib.hid ca
  have HR := Lib.hid hr
  cases hh : hasK o k l with
  | true =>
    rw [hh] at hlk ch
    obtain ⟨p, hp, _⟩ := hasK_some hh
    rw [if_pos rfl, hp] at hlk
    rw [hlk]
    have hlt : plc o k l < n := by have := (List.getElem?_eq_some_iff.1 hp).1; omega
    have pr := fun w1 (b : Below w.heap.size w w1) => (hr.below b).pair hp
    have CH := Lib.hid ch
    generalize plc o k l = j at *
    have PR := Lib.hid pr
    have h2 : (j : Int) < (n : Int) := by omega
    clear t0 ca ch hr hp hh hlk hle hn pr hlt
    go_enter Try.func37, Try.ntmps37
    go_wp2_with fail
    refine (CA.out _ ((HR.out.below T0.out.bel).more T0.out.bel.size)).mono ?_
    rintro e w1 ⟨rfl, b1⟩
    have T1 := Lib.hid (T0.out.on b1)
    obtain ⟨hd0, hd1⟩ := T1.out.cells
    clear b1 hc0 hc1
    go_wp2_with fail
    refine (CH.out _ ((HR.out.below T1.out.bel).more T1.out.bel.size)).mono ?_
    rintro e w2 ⟨rfl, b2⟩
    have T2 := Lib.hid (T1.out.on b2)
    obtain ⟨a, rfl, _, hp0, hp1⟩ := PR.out _ T2.out.bel
    obtain ⟨hr0, hr1, hrf⟩ := T2.out.res
    clear b2 hd0 hd1
    go_wp2_with fail
    obtain ⟨f1, f2⟩ := T2.out.stored (.int .i64 p.1) (.int .i64 p.2)
    exact bodyPost_ret (results_row_tmp rfl _ _ (w.heap.size + 1) _ _ (0, 0) _ _ rfl rfl f1 Try.underlying48 rfl pair_size) rfl ⟨rfl, f2⟩
  | false =>
    rw [hh] at hlk ch
    rw [if_neg (by simp)] at hlk
    rw [hlk]
    have CH := Lib.hid ch
    generalize plc o k l = j at *
    clear t0 ca ch hr hh hlk hle hn
    go_enter Try.func37, Try.ntmps37
    go_wp2_with fail
    refine (CA.out _ ((HR.out.below T0.out.bel).more T0.out.bel.size)).mono ?_
    rintro e w1 ⟨rfl, b1⟩
    have T1 := Lib.hid (T0.out.on b1)
    obtain ⟨hd0, hd1⟩ := T1.out.cells
    clear b1 hc0 hc1
    go_wp2_with fail
    refine (CH.out _ ((HR.out.below T1.out.bel).more T1.out.bel.size)).mono ?_
    rintro e w2 ⟨rfl, b2⟩
    have T2 := Lib.hid (T1.out.on b2)
    obtain ⟨hr0, hr1, hrf⟩ := T2.out.res
    clear b2 hd0 hd1
    go_wp2_with fail
    obtain ⟨f1, f2⟩ := T2.out.stored (.int .i64 0) (.int .i64 0)
    exact bodyPost_ret (results_row_tmp rfl _ _ (w.heap.size + 1) _ _ (0, 0) _ _ rfl rfl f1 Try.underlying48 rfl pair_size) rfl ⟨rfl, f2⟩

set_option maxRecDepth 100000 in
theorem floor_walk (o : Ord) (ho : o.fine) (k : Int) (n cap : Nat) (A : Option Addr) (l : KV) (w : World) (hn : l.length = n) (hn1 : n ≤ 100000) (hr : RowAt w w.heap.size A (prCells l)) :
    Calls Try.prog 42 #[.agg #[.int .i64 o.kind, .int .i64 o.m], .slice A n cap, .int .i64 k] w fun e w' => e = .returned (pairV (floorP o k l)) ∧ Below w.heap.size w w' := by
  have hle := plc_le o k l
  have hlk : floorP o k l = if hasK o k l then l[plc o k l]? else if plc o k l = 0 then none else l[plc o k l - 1]? := rfl
  have t0 := Two.init w o
  have ca := fun w1 h => at_walk o ho k n cap A l w1 hn hn1 h
  have ch := fun w1 h => has_walk o ho k n cap A l w1 hn h
  obtain ⟨hc0, hc1⟩ := t0.cells
  have T0 := Lib.hid t0
  have CA := Lib.hid ca
  have HR := Lib.hid hr
  cases hh : hasK o k l with
  | true =>
    rw [hh] at hlk ch
    obtain ⟨p, hp, _⟩ := hasK_some hh
    rw [if_pos rfl, hp] at hlk
    rw [hlk]
    have hlt : plc o k l < n := by have := (List.getElem?_eq_some_iff.1 hp).1; omega
    have pr := fun w1 (b : Below w.heap.size w w1) => (hr.below b).pair hp
    have CH := Lib.hid ch
    generalize plc o k l = j at *
    have PR := Lib.hid pr
    have h2 : (j : Int) < (n : Int) := by omega
    clear t0 ca ch hr hp hh hlk hle hn pr hlt
    go_enter Try.func42, Try.ntmps42
    go_wp2_with fail
    refine (CA.out _ ((HR.out.below T0.out.bel).more T0.out.bel.size)).mono ?_
    rintro e w1 ⟨rfl, b1⟩
    have T1 := Lib.hid (T0.out.on b1)
    obtain ⟨hd0, hd1⟩ := T1.out.cells
    clear b1 hc0 hc1
    go_wp2_with fail
    refine (CH.out _ ((HR.out.below T1.out.bel).more T1.out.bel.size)).mono ?_
    rintro e w2 ⟨rfl, b2⟩
    have T2 := Lib.hid (T1.out.on b2)
    obtain ⟨a, rfl, _, hp0, hp1⟩ := PR.out _ T2.out.bel
    obtain ⟨hr0, hr1, hrf⟩ := T2.out.res
    clear b2 hd0 hd1
    go_wp2_with fail
    obtain ⟨f1, f2⟩ := T2.out.stored (.int .i64 p.1) (.int .i64 p.2)
    exact bodyPost_ret (results_row_tmp rfl _ _ (w.heap.size + 1) _ _ (0, 0) _ _ rfl rfl f1 Try.underlying48 rfl pair_size) rfl ⟨rfl, f2⟩
  | false =>
    rw [hh] at hlk ch
    rw [if_neg (by simp)] at hlk
    have CH := Lib.hid ch
    by_cases h0 : plc o k l = 0
    · rw [if_pos h0] at hlk
      rw [hlk]
      have h3 : (((plc o k l : Nat) : Int) == 0) = true := by simp; omega
      rw [h0] at CA CH
      clear t0 ca ch hr hh hlk hle hn h0 h3
      go_enter Try.func42, Try.ntmps42
      go_wp2_with fail
      refine (CA.out _ ((HR.out.below T0.out.bel).more T0.out.bel.size)).mono ?_
      rintro e w1 ⟨rfl, b1⟩
      have T1 := Lib.hid (T0.out.on b1)
      obtain ⟨hd0, hd1⟩ := T1.out.cells
      clear b1 hc0 hc1
      go_wp2_with fail
      refine (CH.out _ ((HR.out.below T1.out.bel).more T1.out.bel.size)).mono ?_
      rintro e w2 ⟨rfl, b2⟩
      have T2 := Lib.hid (T1.out.on b2)
      obtain ⟨hr0, hr1, hrf⟩ := T2.out.res
      clear b2 hd0 hd1
      go_wp2_with fail
      obtain ⟨f1, f2⟩ := T2.out.stored (.int .i64 0) (.int .i64 0)
      exact bodyPost_ret (results_row_tmp rfl _ _ (w.heap.size + 1) _ _ (0, 0) _ _ rfl rfl f1 Try.underlying48 rfl pair_size) rfl ⟨rfl, f2⟩
    · rw [if_neg h0] at hlk
      obtain ⟨p, hp⟩ : ∃ p, l[plc o k l - 1]? = some p := ⟨_, List.getElem?_eq_getElem (by omega)⟩
      rw [hp] at hlk
      rw [hlk]
      have pr := fun w1 (b : Below w.heap.size w w1) => (hr.below b).pair hp
      obtain ⟨i, hi⟩ : ∃ i, plc o k l = i + 1 := ⟨plc o k l - 1, by omega⟩
      rw [hi] at CA CH pr hle
      rw [Nat.add_sub_cancel] at pr
      have PR := Lib.hid pr
      have h3 : ((i : Int) + 1 == 0) = false := by simp; omega
      have h4 : ((i + 1 : Nat) == 0) = false := by simp
      have h2 : (i : Int) < (n : Int) := by omega
      have h5 : (i : Int) ≤ 100000 := by omega
      have h6 : (0 : Int) ≤ (i : Int) := by omega
      clear t0 ca ch hr hp hh hlk hle hn pr h0 hi
      go_enter Try.func42, Try.ntmps42
      go_wp2_with fail
      refine (CA.out _ ((HR.out.below T0.out.bel).more T0.out.bel.size)).mono ?_
      rintro e w1 ⟨rfl, b1⟩
      have T1 := Lib.hid (T0.out.on b1)
      obtain ⟨hd0, hd1⟩ := T1.out.cells
      clear b1 hc0 hc1
      go_wp2_with fail
      refine (CH.out _ ((HR.out.below T1.out.bel).more T1.out.bel.size)).mono ?_
      rintro e w2 ⟨rfl, b2⟩
      have T2 := Lib.hid (T1.out.on b2)
      obtain ⟨a, rfl, _, hp0, hp1⟩ := PR.out _ T2.out.bel
      obtain ⟨hr0, hr1, hrf⟩ := T2.out.res
      clear b2 hd0 hd1
      go_wp2_with fail
      obtain ⟨f1, f2⟩ := T2.out.stored (.int .i64 p.1) (.int .i64 p.2)
      exact bodyPost_ret (results_row_tmp rfl _ _ (w.heap.size + 1) _ _ (0, 0) _ _ rfl rfl f1 Try.underlying48 rfl pair_size) rfl ⟨rfl, f2⟩

end Go.Proofs.Ytmgjpppplapgpaa
