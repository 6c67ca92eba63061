import Derived.Test.YtjjolokeceldmaaGreatRbWalked
import Derived.Test.YtjjolokeceldmaaGreatRbIts
namespace Go.Proofs.YtjjolokeceldmaaGreat.Rb
open Go.RowKit Lib Go.Proofs.YtjjolokeceldmaaGreat
set_option maxRecDepth 100000 in
theorem implRedBlackWalk_walk (o : Ord) (ho : o.fine) (n cap : Nat) (A : Option Addr) (acts : List Do) (nm capm : Nat) (Am : Option Addr) (moves : List Do) (w : World) (hn : acts.length = n) (hn1 : n ≤ 1000) (ha : ActsAt w w.heap.size A acts) (hm : moves.length = nm) (hm1 : nm ≤ 1000) (ham : ActsAt w w.heap.size Am moves)
 (hok : ∀ m ∈ moves, (m.op = 7 ∨ m.op = 8) → 1 ≤ m.key ∧ m.key ≤ 1000) :
 Calls Tryz.prog 6 #[.agg #[.int .i64 o.kind, .int .i64 o.m], .slice A n cap, .slice Am nm capm] w fun e w' =>
  ∃ A' cap', e = .returned (.slice A' nm cap') ∧ w'.ownsRow w.heap.size 46 3 (.slice A' nm cap') nm (seenCells (walkFrom (run o acts) 0 moves)) ∧ Below w.heap.size w w' := by
 have Ha := hid ha
 have Hm := hid ham
 have OK := hid hok
 have RL := hid (show (run o acts).length ≤ 1000 by have := run_length_le o acts; omega)
 clear ha ham hok
 go_enter Tryz.func6, Tryz.ntmps6
 go_wp2_with fail
 have B0 := hid (show Below w.heap.size w (w.alloc (.cells #[.int .i64 o.kind, .int .i64 o.m] 23)) from (Below.refl _ _).alloc (Nat.le_refl _) _)
 refine (rb_walk o ho n cap A acts _ hn hn1 ((Ha.out.below B0.out).more (by simp))).mono ?_
 rintro e w1 ⟨tb, rfl, ⟨ob, t, ht, hk⟩, b1⟩
 have B1 := hid (B0.out.trans (b1.mono (by simp)))
 have T := hid ht
 have HK := hid hk
 have Z1 := hid (show w.heap.size + 1 ≤ w1.heap.size by have := b1.size; simp at this; omega)
 clear ht b1 hk
 go_wp2_with fail
 refine (rbIterator_walk _ tb).mono ?_
 rintro e w2 ⟨rfl, rfl⟩
 have Z2 := hid (show (w1.alloc (.cells #[.pointer (some ⟨tb, 0, none⟩), .pointer none, .int .u8 0] 40)).heap.size = w1.heap.size + 1 by simp)
 have IT0 := hid (show RbAt o ob (w.alloc (.cells #[.int .i64 o.kind, .int .i64 o.m] 23)).heap.size (w1.alloc (.cells #[.pointer (some ⟨tb, 0, none⟩), .pointer none, .int .u8 0] 40)) tb t from T.out.below ((Below.refl _ _).alloc (Nat.le_refl _) _))
 have B2 := hid (B1.out.alloc (by have := Z1.out; omega) (.cells #[.pointer (some ⟨tb, 0, none⟩), .pointer none, .int .u8 0] 40))
 generalize w1.alloc (.cells #[.pointer (some ⟨tb, 0, none⟩), .pointer none, .int .u8 0] 40) = w2 at *
 have IT := hid (show RbItAt o ob (w.alloc (.cells #[.int .i64 o.kind, .int .i64 o.m] 23)).heap.size (w2.alloc (.cells #[.pointer (some ⟨tb, 0, none⟩), .pointer none, .int .u8 0] 40)) tb w2.heap.size t 0 from
  ⟨IT0.out.below ((Below.refl _ _).alloc (Nat.le_refl _) _), Blk.new _ _ _, by omega, by have := Z1.out; have := Z2.out; simp; omega⟩)
 have B3 := hid (B2.out.alloc (by have := Z1.out; have := Z2.out; omega) (.cells #[.pointer (some ⟨tb, 0, none⟩), .pointer none, .int .u8 0] 40))
 have C := hid (rbWalked_walk IT.out nm capm Am moves hm hm1 (by rw [← BT.kvs_length, HK.out]; have := RL.out; omega) ((Hm.out.below B3.out).more (by simp)) (by have := Z1.out; have := Z2.out; simp; omega) OK.out)
 clear IT IT0 T B1 B0 B2
 go_wp2_with fail
 refine C.out.mono ?_
 rintro e w3 ⟨A', cap', rfl, own, b3⟩
 rw [HK.out] at own
 have F := hid (show w3.ownsRow w.heap.size _ _ _ _ _ ∧ Below w.heap.size w w3 from ⟨own_base own (by have := Z1.out; have := Z2.out; simp; omega), B3.out.trans (b3.mono (by simp))⟩)
 clear own b3 C B3 Z1 Z2
 go_wp2_with fail
 go_ret
 exact ⟨A', cap', rfl, F.out⟩
section
variable {w0 w w' : World} {g B C : Nat} {o : Ord} {rows : List (Option Addr × List Value)} {sts : List (Value × KV)}
theorem keptWalk (h : Kept w0 g o rows sts B w) (ho : o.fine) (A : Option Addr) (acts : List Do) (n cap : Nat) (hn : acts.length = n) (hn1 : n ≤ 1000) (hmm : (A, actCells acts) ∈ rows) (Am : Option Addr) (moves : List Do) (nm capm : Nat) (hm : moves.length = nm) (hm1 : nm ≤ 1000) (hmr : (Am, actCells moves) ∈ rows)
 (hok : ∀ m ∈ moves, (m.op = 7 ∨ m.op = 8) → 1 ≤ m.key ∧ m.key ≤ 1000) :
 Calls Tryz.prog 6 #[.agg #[.int .i64 o.kind, .int .i64 o.m], .slice A n cap, .slice Am nm capm] w fun e w' =>
  ∃ A' cap', e = .returned (.slice A' nm cap') ∧ Kept w0 g o ((A', seenCells (walkFrom (run o acts) 0 moves)) :: rows) sts w'.heap.size w' := by
 refine (implRedBlackWalk_walk o ho n cap A acts nm capm Am moves w hn hn1 ((h.rows _ hmm).acts.more h.le) hm hm1 ((h.rows _ hmr).acts.more h.le) hok).mono ?_
 rintro e w' ⟨A', cap', rfl, own, b⟩
 exact ⟨A', cap', rfl, (h.on b).row (RowAt.of_own own)⟩
end
end Go.Proofs.YtjjolokeceldmaaGreat.Rb
