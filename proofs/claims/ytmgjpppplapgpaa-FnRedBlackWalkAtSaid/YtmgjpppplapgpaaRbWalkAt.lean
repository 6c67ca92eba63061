/-
  The thin package's RedBlackWalkAt: an iterator from the node of a number on.
-/
import Derived.Test.YtmgjpppplapgpaaKeptSWalk
import Derived.Test.YtmgjpppplapgpaaRbWalk
import Derived.Test.YtmgjpppplapgpaaRbFew
namespace Go.Proofs.Ytmgjpppplapgpaa.Rb
open Go.RowKit Go.Proofs.Ytmgjpppplapgpaa

theorem rbIteratorAt_walk (w : World) (tb i : Nat) : Calls Try.prog 64 #[.pointer (some ⟨tb, 0, none⟩), .pointer (some ⟨i, 0, none⟩)] w fun e w' =>
    e = .returned (.agg #[.pointer (some ⟨tb, 0, none⟩), .pointer (some ⟨i, 0, none⟩), .int .u8 1]) ∧ w' = w.alloc (.cells #[.pointer (some ⟨tb, 0, none⟩), .pointer (some ⟨i, 0, none⟩), .int .u8 1] 85) := by
  have fb : Blk (w.alloc (.cells #[.pointer (some ⟨tb, 0, none⟩), .pointer (some ⟨i, 0, none⟩), .int .u8 1] 85)) w.heap.size 85 #[.pointer (some ⟨tb, 0, none⟩), .pointer (some ⟨i, 0, none⟩), .int .u8 1] := Blk.new _ _ _
  have FB := Lib.hid fb
  clear fb
  go_enter Try.func64, Try.ntmps64
  go_wp2_with fail
  refine bodyPost_ret (results_cell_row rfl _ _ w.heap.size _ _ (0, 0) _ rfl FB.out Try.underlying85 rfl it_size) rfl ?_
  exact ⟨rfl, rfl⟩

/-- There is none: an empty list. -/
theorem implRedBlackWalkAt_none (o : Ord) (ho : o.fine) (n cap : Nat) (A : Option Addr) (acts : List Do) (k : Int) (nm capm : Nat) (Am : Option Addr) (w : World) (hn : acts.length = n) (hn1 : n ≤ 1000) (ha : ActsAt w w.heap.size A acts) (hh : hasK o k (run o acts) = false) :
    Calls Try.prog 48 #[.agg #[.int .i64 o.kind, .int .i64 o.m], .slice A n cap, .int .i64 k, .slice Am nm capm] w fun e w' =>
      ∃ A' cap', e = .returned (.slice A' 0 cap') ∧ Below w.heap.size w w' := by
  have Ha := Lib.hid ha
  clear ha
  go_enter Try.func48, Try.ntmps48
  go_wp2_with fail
  have B0 := Lib.hid (show Below w.heap.size w (w.alloc (.cells #[.int .i64 o.kind, .int .i64 o.m] 23)) from (Below.refl _ _).alloc (Nat.le_refl _) _)
  refine (rb_walk o ho n cap A acts _ hn hn1 ((Ha.out.below B0.out).more (by simp))).mono ?_
  rintro e w1 ⟨tb, rfl, ⟨ob, t, ht, hk⟩, b1⟩
  have g := rbGetNode_walk o ob _ _ tb t k ht
  have e3 : seekId o k t = none := by
    rcases seek_look (o := o) (k := k) (c := []) ht.asc with ⟨c', i, l, k', v, b, r, e1, e2, _, _⟩ | ⟨e1, e2⟩
    · rw [hk, look_plc, hh] at e2; simp at e2
    · unfold seekId; rw [e1]; rfl
  rw [e3] at g
  simp only [ptr, Option.map_none] at g
  have G := Lib.hid g
  have B1 := Lib.hid (B0.out.trans (b1.mono (by simp)))
  clear ht b1 hk e3 hh g B0
  go_wp2_with fail
  refine G.out.mono ?_
  rintro e w2 ⟨rfl, m, rfl⟩
  have F := Lib.hid (fun (x : Obj) => (Below.drewN' B1.out m).alloc (Below.drewN' B1.out m).size x)
  clear G B1
  go_wp2_with fail
  go_ret
  exact ⟨_, _, rfl, F.out _⟩

set_option maxRecDepth 100000 in
/-- From its place on. -/
theorem implRedBlackWalkAt_walk (o : Ord) (ho : o.fine) (n cap : Nat) (A : Option Addr) (acts : List Do) (k : Int) (nm capm : Nat) (Am : Option Addr) (moves : List Do) (w : World) (hn : acts.length = n) (hn1 : n ≤ 1000) (ha : ActsAt w w.heap.size A acts) (hm : moves.length = nm) (hm1 : nm ≤ 1000) (ham : ActsAt w w.heap.size Am moves)
    (hok : ∀ m ∈ moves, (m.op = 7 ∨ m.op = 8) → 1 ≤ m.key ∧ m.key ≤ 1000) (hh : hasK o k (run o acts) = true) :
    Calls Try.prog 48 #[.agg #[.int .i64 o.kind, .int .i64 o.m], .slice A n cap, .int .i64 k, .slice Am nm capm] w fun e w' =>
      ∃ A' cap', e = .returned (.slice A' nm cap') ∧ w'.ownsRow w.heap.size 82 3 (.slice A' nm cap') nm (seenCells (walkFrom (run o acts) (plc o k (run o acts) + 1) moves)) ∧ Below w.heap.size w w' := by
  have Ha := Lib.hid ha
  have Hm := Lib.hid ham
  have OK := Lib.hid hok
  have RL := Lib.hid (show (run o acts).length ≤ 1000 by have := run_length_le o acts; omega)
  clear ha ham hok
  go_enter Try.func48, Try.ntmps48
  go_wp2_with fail
  have B0 := Lib.hid (show Below w.heap.size w (w.alloc (.cells #[.int .i64 o.kind, .int .i64 o.m] 23)) from (Below.refl _ _).alloc (Nat.le_refl _) _)
  refine (rb_walk o ho n cap A acts _ hn hn1 ((Ha.out.below B0.out).more (by simp))).mono ?_
  rintro e w1 ⟨tb, rfl, ⟨ob, t, ht, hk⟩, b1⟩
  have g := rbGetNode_walk o ob _ _ tb t k ht
  obtain ⟨q, hq, _⟩ := hasK_some hh
  have hlt : plc o k (run o acts) < t.count := by rw [← BT.kvs_length, hk]; exact (List.getElem?_eq_some_iff.1 hq).1
  obtain ⟨c, i, l, k2, v2, b, r, hs, h1, _, _, _⟩ := ht.st.at_place hlt
  have e3 : seekId o k t = some i := seekId_at ht.st ht.asc (by rw [hk]; exact hh) (by rw [hk]; exact h1)
  rw [e3] at g
  simp only [ptr, Option.map_some] at g
  have G := Lib.hid g
  have ITE := Lib.hid (itCells_at tb t.ord h1)
  have B1 := Lib.hid (B0.out.trans (b1.mono (by simp)))
  have T := Lib.hid ht
  have HK := Lib.hid hk
  have HL := Lib.hid hlt
  have Z1 := Lib.hid (show w.heap.size + 1 ≤ w1.heap.size by have := b1.size; simp at this; omega)
  clear ht b1 hk e3 hh g hq hlt hs h1
  generalize hpl : plc o k (run o acts) = pl at *
  have HPL := Lib.hid hpl
  clear hpl
  go_wp2_with fail
  refine G.out.mono ?_
  rintro e w2 ⟨rfl, m, rfl⟩
  have T1 := Lib.hid (T.out.same (w' := w1.drewN m) fun _ _ => rfl)
  have B1' := Lib.hid (Below.drewN' B1.out m)
  have Z1' := Lib.hid (show w.heap.size + 1 ≤ (w1.drewN m).heap.size from Z1.out)
  clear T B1 Z1 G
  generalize w1.drewN m = w1' at *
  go_wp2_with fail
  refine (rbIteratorAt_walk _ tb i).mono ?_
  rintro e w2 ⟨rfl, rfl⟩
  have Z2 := Lib.hid (show (w1'.alloc (.cells #[.pointer (some ⟨tb, 0, none⟩), .pointer (some ⟨i, 0, none⟩), .int .u8 1] 85)).heap.size = w1'.heap.size + 1 by simp)
  have IT0 := Lib.hid (show RbAt o ob (w.alloc (.cells #[.int .i64 o.kind, .int .i64 o.m] 23)).heap.size (w1'.alloc (.cells #[.pointer (some ⟨tb, 0, none⟩), .pointer (some ⟨i, 0, none⟩), .int .u8 1] 85)) tb t from T1.out.below ((Below.refl _ _).alloc (Nat.le_refl _) _))
  have B2 := Lib.hid (B1'.out.alloc (by have := Z1'.out; omega) (.cells #[.pointer (some ⟨tb, 0, none⟩), .pointer (some ⟨i, 0, none⟩), .int .u8 1] 85))
  generalize w1'.alloc (.cells #[.pointer (some ⟨tb, 0, none⟩), .pointer (some ⟨i, 0, none⟩), .int .u8 1] 85) = w2 at *
  have IT := Lib.hid (show RbItAt o ob (w.alloc (.cells #[.int .i64 o.kind, .int .i64 o.m] 23)).heap.size (w2.alloc (.cells #[.pointer (some ⟨tb, 0, none⟩), .pointer (some ⟨i, 0, none⟩), .int .u8 1] 85)) tb w2.heap.size t (pl + 1) from
    ⟨IT0.out.below ((Below.refl _ _).alloc (Nat.le_refl _) _), by rw [ITE.out]; exact Blk.new _ _ _, by have := HL.out; omega, by have := Z1'.out; have := Z2.out; simp; omega⟩)
  have B3 := Lib.hid (B2.out.alloc (by have := Z1'.out; have := Z2.out; omega) (.cells #[.pointer (some ⟨tb, 0, none⟩), .pointer (some ⟨i, 0, none⟩), .int .u8 1] 85))
  have C := Lib.hid (rbWalked_walk IT.out nm capm Am moves hm hm1 (by rw [← BT.kvs_length, HK.out]; have := RL.out; omega) ((Hm.out.below B3.out).more (by simp)) (by have := Z1'.out; have := Z2.out; simp; omega) OK.out)
  clear IT IT0 T1 B1' B0 B2 ITE
  go_wp2_with fail
  refine C.out.mono ?_
  rintro e w3 ⟨A', cap', rfl, own, b3⟩
  rw [HK.out, ← HPL.out] at own
  have F := Lib.hid (show w3.ownsRow w.heap.size _ _ _ _ _ ∧ Below w.heap.size w w3 from ⟨own_base own (by have := Z1'.out; have := Z2.out; simp; omega), B3.out.trans (b3.mono (by simp))⟩)
  clear own b3 C B3 Z1' Z2
  go_wp2_with fail
  go_ret
  exact ⟨A', cap', rfl, F.out⟩

section
variable {w0 w w' : World} {g B C : Nat} {o : Ord} {rows : List (Option Addr × List Value)} {sts : List (Value × KV)}
theorem keptWalkAt (h : Kept w0 g o rows sts B w) (ho : o.fine) (A : Option Addr) (acts : List Do) (k : Int) (n cap : Nat) (hn : acts.length = n) (hn1 : n ≤ 1000) (hmm : (A, actCells acts) ∈ rows) (Am : Option Addr) (moves : List Do) (nm capm : Nat) (hm : moves.length = nm) (hm1 : nm ≤ 1000) (hmr : (Am, actCells moves) ∈ rows)
    (hok : ∀ m ∈ moves, (m.op = 7 ∨ m.op = 8) → 1 ≤ m.key ∧ m.key ≤ 1000) (hh : hasK o k (run o acts) = true) :
    Calls Try.prog 48 #[.agg #[.int .i64 o.kind, .int .i64 o.m], .slice A n cap, .int .i64 k, .slice Am nm capm] w fun e w' =>
      ∃ A' cap', e = .returned (.slice A' nm cap') ∧ Kept w0 g o ((A', seenCells (walkFrom (run o acts) (plc o k (run o acts) + 1) moves)) :: rows) sts w'.heap.size w' := by
  refine (implRedBlackWalkAt_walk o ho n cap A acts k nm capm Am moves w hn hn1 ((h.rows _ hmm).acts.more h.le) hm hm1 ((h.rows _ hmr).acts.more h.le) hok hh).mono ?_
  rintro e w' ⟨A', cap', rfl, own, b⟩
  exact ⟨A', cap', rfl, (h.on b).row (RowAt.of_own own)⟩
theorem keptSWalkAt (h : Kept w0 g o rows sts B w) (A : Option Addr) (l : KV) (n cap : Nat) (hn : l.length = n) (hn1 : n ≤ 100000) (hmm : (A, prCells l) ∈ rows) (q : Nat) (hq : q < l.length) (Am : Option Addr) (moves : List Do) (nm capm : Nat) (hm : moves.length = nm) (hm1 : nm ≤ 1000) (hmr : (Am, actCells moves) ∈ rows)
    (hok : ∀ m ∈ moves, (m.op = 7 ∨ m.op = 8) → 1 ≤ m.key ∧ m.key ≤ 1000) :
    Calls Try.prog 46 #[.slice A n cap, .int .i64 q, .slice Am nm capm] w fun e w' =>
      ∃ A' cap', e = .returned (.slice A' nm cap') ∧ Kept w0 g o ((A', seenCells (walkFrom l (q + 1) moves)) :: rows) sts w'.heap.size w' := by
  refine (swalk_walk l n cap A hn hn1 (q + 1) (by omega) q (by simp) nm capm Am moves hm hm1 w ((h.rows _ hmm).more h.le) ((h.rows _ hmr).acts.more h.le) hok).mono ?_
  rintro e w' ⟨A', cap', rfl, own, b⟩
  exact ⟨A', cap', rfl, (h.on b).row (RowAt.of_own own)⟩
theorem keptWalkAt0 (h : Kept w0 g o rows sts B w) (ho : o.fine) (A : Option Addr) (acts : List Do) (k : Int) (n cap : Nat) (hn : acts.length = n) (hn1 : n ≤ 1000) (hmm : (A, actCells acts) ∈ rows) (Am : Option Addr) (nm capm : Nat) (hh : hasK o k (run o acts) = false) :
    Calls Try.prog 48 #[.agg #[.int .i64 o.kind, .int .i64 o.m], .slice A n cap, .int .i64 k, .slice Am nm capm] w fun e w' =>
      ∃ A' cap', e = .returned (.slice A' 0 cap') ∧ Kept w0 g o rows sts w'.heap.size w' := by
  refine (implRedBlackWalkAt_none o ho n cap A acts k nm capm Am w hn hn1 ((h.rows _ hmm).acts.more h.le) hh).mono ?_
  rintro e w' ⟨A', cap', rfl, b⟩
  exact ⟨A', cap', rfl, h.on b⟩
end
end Go.Proofs.Ytmgjpppplapgpaa.Rb
