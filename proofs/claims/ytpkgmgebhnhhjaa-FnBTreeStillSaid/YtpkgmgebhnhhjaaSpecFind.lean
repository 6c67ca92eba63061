/-
  The reference's OrderOk, Find, Floor and Ceiling.
-/
import Derived.Test.YtpkgmgebhnhhjaaSpecFine
import Derived.Test.YtpkgmgebhnhhjaaRegApp
namespace Go.Proofs.Ytpkgmgebhnhhjaa
open Go.RowKit

/-- A pair, and whether there is one. -/
def pairV : Option (Int × Int) → Value
  | some p => .tuple #[.agg #[.int .i64 p.1, .int .i64 p.2], .bool true]
  | none => .tuple #[.agg #[.int .i64 0, .int .i64 0], .bool false]
def floorP (o : Ord) (k : Int) (l : KV) : Option (Int × Int) := if hasK o k l then l[plc o k l]? else if plc o k l = 0 then none else l[plc o k l - 1]?
def ceilP (o : Ord) (k : Int) (l : KV) : Option (Int × Int) := l[plc o k l]?

/-- The two blocks that such a call makes first, in whatever world comes behind. -/
structure Two (w0 w : World) (o : Ord) : Prop where
  ob : Blk w w0.heap.size 23 #[.int .i64 o.kind, .int .i64 o.m]
  rb : Blk w (w0.heap.size + 1) 54 #[.int .i64 0, .int .i64 0]
  bel : Below w0.heap.size w0 w
theorem Two.init (w : World) (o : Ord) : Two w ((w.alloc (.cells #[.int .i64 o.kind, .int .i64 o.m] 23)).alloc (.cells #[.int .i64 0, .int .i64 0] 54)) o :=
  ⟨Blk.alloc (Blk.new _ _ _) _, Blk.newAt (by simp) _ _, ((Below.refl _ _).alloc (Nat.le_refl _) _).alloc (by simp) _⟩
theorem Two.on {w0 w w' : World} {o : Ord} (h : Two w0 w o) (b : Below w.heap.size w w') : Two w0 w' o := ⟨h.ob.below b h.ob.lt, h.rb.below b h.rb.lt, h.bel.trans (b.mono h.bel.size)⟩
theorem Two.cells {w0 w : World} {o : Ord} (h : Two w0 w o) : w.cell? ⟨w0.heap.size, 0, none⟩ = some (.int .i64 o.kind) ∧ w.cell? ⟨w0.heap.size, 1, none⟩ = some (.int .i64 o.m) := ⟨h.ob.cell 0, h.ob.cell 1⟩
theorem Two.res {w0 w : World} {o : Ord} (h : Two w0 w o) : w.cell? ⟨w0.heap.size + 1, 0, none⟩ = some (.int .i64 0) ∧ w.cell? ⟨w0.heap.size + 1, 1, none⟩ = some (.int .i64 0) ∧ (∀ j, w.frozen? ⟨w0.heap.size + 1, j, none⟩ = false) := ⟨h.rb.cell 0, h.rb.cell 1, h.rb.frozen⟩

theorem results_row_tmp {P : Program} {fn : Func} {p u : Tmp} {ty : TypeId} (h : fn.results = #[.cell p ty, .tmp u]) (tmps : Array Value) (w : World) (g : Nat) (t : TypeId) (cs : Array Value) (fr : Nat × Nat) (d : TypeDesc) (x : Value)
    (hp : tmps.getD p undef = .pointer (some ⟨g, 0, none⟩)) (hx : tmps.getD u undef = x) (hg : w.heap[g]? = some (.cells cs t fr))
    (hu : P.underlying ty = some d) (hd : (match d with | .struct _ | .array _ _ => true | _ => false) = true) (hi : (P.info? ty).map (·.size) = some cs.size) :
    (results fn tmps).run P w = .ok (.tuple #[.agg cs, x]) w := by
  have hp' : tmps[p]?.getD undef = .pointer (some ⟨g, 0, none⟩) := by simpa using hp
  have hx' : tmps[u]?.getD undef = x := by simpa using hx
  simp [results, h, hp', hx', asAddr, run_loadVar_row w g t ty cs fr d hg hu hd hi]
theorem pair_size : (Try.prog.info? 54).map (·.size) = some 2 := by kernel_rfl
/-- The end of such a call. -/
theorem Two.stored {w0 w : World} {o : Ord} (h : Two w0 w o) (x y : Value) : Blk ((w.setCell ⟨w0.heap.size + 1, 0, none⟩ x).setCell ⟨w0.heap.size + 1, 1, none⟩ y) (w0.heap.size + 1) 54 #[x, y] ∧
    Below w0.heap.size w0 ((w.setCell ⟨w0.heap.size + 1, 0, none⟩ x).setCell ⟨w0.heap.size + 1, 1, none⟩ y) :=
  ⟨Blk.set_ (Blk.set_ h.rb 0 x) 1 y, (h.bel.setCell (p := ⟨w0.heap.size + 1, 0, none⟩) (Nat.le_succ _) _).setCell (p := ⟨w0.heap.size + 1, 1, none⟩) (Nat.le_succ _) _⟩

set_option maxRecDepth 100000 in
theorem find_walk (o : Ord) (ho : o.fine) (k : Int) (n cap : Nat) (A : Option Addr) (l : KV) (w : World) (hn : l.length = n) (hn1 : n ≤ 100000) (hr : RowAt w w.heap.size A (prCells l)) :
    Calls Try.prog 38 #[.agg #[.int .i64 o.kind, .int .i64 o.m], .slice A n cap, .int .i64 k] w fun e w' => e = .returned (pairV (look o k l)) ∧ Below w.heap.size w w' := by
  have hle := plc_le o k l
  have hlk := look_plc o k l
  have t0 := Two.init w o
  have ca := fun w1 h => at_walk o ho k n cap A l w1 hn hn1 h
  have ch := fun w1 h => has_walk o ho k n cap A l w1 hn h
  obtain ⟨hc0, hc1⟩ := t0.cells
  have T0 := Lib.hid t0
  have CA := Lib.hid ca
  have HR := Lib.hid hr
  cases hh : hasK o k l with
  | true =>
    rw [hh] at hlk ch
    obtain ⟨p, hp, _⟩ := hasK_some hh
    rw [if_pos rfl, hp] at hlk
    rw [hlk]
    have hlt : plc o k l < n := by have := (List.getElem?_eq_some_iff.1 hp).1; omega
    have pr := fun w1 (b : Below w.heap.size w w1) => (hr.below b).pair hp
    have CH := Lib.hid ch
    generalize plc o k l = j at *
    have PR := Lib.hid pr
    have h2 : (j : Int) < (n : Int) := by omega
    clear t0 ca ch hr hp hh hlk hle hn pr hlt
    go_enter Try.func38, Try.ntmps38
    go_wp2_with fail
    refine (CA.out _ ((HR.out.below T0.out.bel).more T0.out.bel.size)).mono ?_
    rintro e w1 ⟨rfl, b1⟩
    have T1 := Lib.hid (T0.out.on b1)
    obtain ⟨hd0, hd1⟩ := T1.out.cells
    clear b1 hc0 hc1
    go_wp2_with fail
    refine (CH.out _ ((HR.out.below T1.out.bel).more T1.out.bel.size)).mono ?_
    rintro e w2 ⟨rfl, b2⟩
    have T2 := Lib.hid (T1.out.on b2)
    obtain ⟨a, rfl, _, hp0, hp1⟩ := PR.out _ T2.out.bel
    obtain ⟨hr0, hr1, hrf⟩ := T2.out.res
    clear b2 hd0 hd1
    go_wp2_with fail
    obtain ⟨f1, f2⟩ := T2.out.stored (.int .i64 p.1) (.int .i64 p.2)
    exact bodyPost_ret (results_row_tmp rfl _ _ (w.heap.size + 1) _ _ (0, 0) _ _ rfl rfl f1 Try.underlying54 rfl pair_size) rfl ⟨rfl, f2⟩
  | false =>
    rw [hh] at hlk ch
    rw [if_neg (by simp)] at hlk
    rw [hlk]
    have CH := Lib.hid ch
    generalize plc o k l = j at *
    clear t0 ca ch hr hh hlk hle hn
    go_enter Try.func38, Try.ntmps38
    go_wp2_with fail
    refine (CA.out _ ((HR.out.below T0.out.bel).more T0.out.bel.size)).mono ?_
    rintro e w1 ⟨rfl, b1⟩
    have T1 := Lib.hid (T0.out.on b1)
    obtain ⟨hd0, hd1⟩ := T1.out.cells
    clear b1 hc0 hc1
    go_wp2_with fail
    refine (CH.out _ ((HR.out.below T1.out.bel).more T1.out.bel.size)).mono ?_
    rintro e w2 ⟨rfl, b2⟩
    have T2 := Lib.hid (T1.out.on b2)
    obtain ⟨hr0, hr1, hrf⟩ := T2.out.res
    clear b2 hd0 hd1
    go_wp2_with fail
    obtain ⟨f1, f2⟩ := T2.out.stored (.int .i64 0) (.int .i64 0)
    exact bodyPost_ret (results_row_tmp rfl _ _ (w.heap.size + 1) _ _ (0, 0) _ _ rfl rfl f1 Try.underlying54 rfl pair_size) rfl ⟨rfl, f2⟩
end Go.Proofs.Ytpkgmgebhnhhjaa
