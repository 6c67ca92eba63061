/-
  The thin package's shape of a tree. (Printed by gen_shape.py.)
-/
import Derived.Test.YtmhkknobgcdkkaaRbKnots
import Derived.Test.YtmhkknobgcdkkaaRbMake
namespace Go.Proofs.Ytmhkknobgcdkkaa.Rb
open Go.RowKit Go.Proofs.Ytmhkknobgcdkkaa

theorem implRedBlackShape_walk (o : Ord) (ho : o.fine) (n cap : Nat) (A : Option Addr) (acts : List Do) (w : World) (hn : acts.length = n) (hn1 : n ≤ 1000) (ha : ActsAt w w.heap.size A acts) :
    Calls Try.prog 19 #[.agg #[.int .i64 o.kind, .int .i64 o.m], .slice A n cap] w fun e w' =>
      ∃ (t : BT) (A' : Option Addr) (cap' : Nat), e = .returned (.slice A' t.count cap') ∧ w'.ownsRow w.heap.size 47 6 (.slice A' t.count cap') t.count (knCells (knots 0 (-1) t)) ∧ t.kvs = run o acts ∧ ok t ∧ Below w.heap.size w w' := by
  have hr := run_length_le o acts
  have Hr := Lib.hid hr
  have Ha := Lib.hid ha
  clear ha hr
  go_enter Try.func19, Try.ntmps19
  go_wp2_with fail
  have B0 := Lib.hid (show Below w.heap.size w ((w.alloc (.cells #[.int .i64 o.kind, .int .i64 o.m] 23)).alloc (.cells #[] 47)) from ((Below.refl _ _).alloc (Nat.le_refl _) _).alloc (by simp) _)
  have OW := Lib.hid (own_empty (w := (w.alloc (.cells #[.int .i64 o.kind, .int .i64 o.m] 23)).alloc (.cells #[] 47)) (base := w.heap.size) (g := w.heap.size + 1) (e := 47) (size := 6) (Blk.newAt (by simp) _ _) (by omega))
  have Z0 := Lib.hid (show ((w.alloc (.cells #[.int .i64 o.kind, .int .i64 o.m] 23)).alloc (.cells #[] 47)).heap.size = w.heap.size + 1 + 1 by simp)
  have hc := Lib.hid (show ActsAt ((w.alloc (.cells #[.int .i64 o.kind, .int .i64 o.m] 23)).alloc (.cells #[] 47)) ((w.alloc (.cells #[.int .i64 o.kind, .int .i64 o.m] 23)).alloc (.cells #[] 47)).heap.size A acts from (Ha.out.below B0.out).more (by simp; omega))
  generalize (w.alloc (.cells #[.int .i64 o.kind, .int .i64 o.m] 23)).alloc (.cells #[] 47) = w0 at *
  refine (rb_walk o ho n cap A acts w0 hn hn1 hc.out).mono ?_
  rintro e w1 ⟨tb, rfl, ⟨ob, t, ht, hk⟩, b1⟩
  have hct := BT.kvs_length t
  rw [hk] at hct
  have hroot := ht.st.hc.slot_cell
  obtain ⟨hsl, hslf⟩ := hroot
  simp only [slot] at hsl
  have hid : ∀ b ∈ t.ids, b ∉ [w.heap.size + 1] := by
    intro b hb hm
    have h1 := ht.lo.2 b (by simp [hb])
    have h2 := Z0.out
    simp only [List.mem_singleton] at hm
    omega
  have CK := Lib.hid (redKnots_walk w.heap.size [w.heap.size + 1] w1 t [] (-1) none w1 (some ⟨w.heap.size + 1, 0, none⟩) 0 0 rfl ht.st.ht hid (.inl ⟨rfl, rfl⟩) (Only.refl _ _) (fun a ha => by injection ha with ha; subst ha; exact .inl (by simp)) (own_below OW.out b1) (by have := Hr.out; omega) (by have := b1.size; have := Z0.out; omega))
  have OK := Lib.hid ht.ok
  have HK := Lib.hid hk
  have B1 := Lib.hid (B0.out.trans (b1.mono (by have := Z0.out; omega)))
  clear ht hk b1 hct hid OW Ha hc
  generalize ptr t.root = rp at hsl CK
  go_wp2_with fail
  refine CK.out.mono ?_
  rintro e w2 ⟨A', cap', rfl, own, _, on⟩
  simp only [Nat.zero_add, List.nil_append] at own
  have F := Lib.hid (show w2.ownsRow _ _ _ _ _ _ ∧ Below w.heap.size w w2 from ⟨own, B1.out.trans (on.below (fun b hb => by simp only [List.mem_singleton] at hb; omega) (by have := B1.out.size; exact this))⟩)
  clear own on CK B1
  simp only [Nat.zero_add]
  go_wp2_with fail
  go_ret
  exact ⟨t, A', cap', rfl, F.out.1, HK.out, OK.out, F.out.2⟩
end Go.Proofs.Ytmhkknobgcdkkaa.Rb
