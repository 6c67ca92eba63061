/-
  The thin package's stateOf and RedBlackState; growsRedBlack.
-/
import Derived.Test.YtmhkknobgcdkkaaRbKeys
import Derived.Test.YtmhkknobgcdkkaaSpecSame
namespace Go.Proofs.Ytmhkknobgcdkkaa.Rb
open Go.RowKit Go.Proofs.Ytmhkknobgcdkkaa

@[go_sem] theorem rb_method_Keys (n : Nat) (a : Addr) (w : World) : (method (n + 1) 68 (.pointer (some a)) "Keys").run Try.prog w = .ok (86, .pointer (some a)) w := by kernel_rfl
@[go_sem] theorem rb_method_Values (n : Nat) (a : Addr) (w : World) : (method (n + 1) 68 (.pointer (some a)) "Values").run Try.prog w = .ok (91, .pointer (some a)) w := by kernel_rfl
@[go_sem] theorem rb_method_Size (n : Nat) (a : Addr) (w : World) : (method (n + 1) 68 (.pointer (some a)) "Size").run Try.prog w = .ok (89, .pointer (some a)) w := by kernel_rfl
@[go_sem] theorem rb_method_Empty (n : Nat) (a : Addr) (w : World) : (method (n + 1) 68 (.pointer (some a)) "Empty").run Try.prog w = .ok (85, .pointer (some a)) w := by kernel_rfl


set_option maxRecDepth 100000 in
theorem rbStateOf_walk {o : Ord} {ob B tb : Nat} {w : World} {t : BT} (h : RbAt o ob B w tb t) (hl : t.count ≤ 100000) :
    Calls Try.prog 29 #[.iface 68 (.pointer (some ⟨tb, 0, none⟩))] w fun e w' => ∃ v, e = .returned v ∧ StateOwn w' w.heap.size v t.kvs ∧ Below w.heap.size w w' := by
  have b0 : Below w.heap.size w (w.alloc (.cells #[.slice none 0 0, .slice none 0 0, .int .i64 0, .bool false] 33)) := (Below.refl _ _).alloc (Nat.le_refl _) _
  have cb : Blk (w.alloc (.cells #[.slice none 0 0, .slice none 0 0, .int .i64 0, .bool false] 33)) w.heap.size 33 #[.slice none 0 0, .slice none 0 0, .int .i64 0, .bool false] := Blk.new _ _ _
  have h0 := h.below b0
  have hlen := BT.kvs_length t
  have H := Lib.hid h
  have B0 := Lib.hid b0
  have CB := Lib.hid cb
  have H0 := Lib.hid h0
  clear h b0 cb h0
  go_enter Try.func29, Try.ntmps29
  go_wp2_with fail
  generalize w.alloc (.cells #[.slice none 0 0, .slice none 0 0, .int .i64 0, .bool false] 33) = w0 at *
  refine (rbKeys_walk H0.out hl).mono ?_
  rintro e w1 ⟨rfl, hb1, b1⟩
  have C1 := Lib.hid (numbers_walk w1 _ (t.kvs.map Prod.fst) t.count (by rw [List.length_map, hlen]) hl hb1)
  have cb1 := Lib.hid (CB.out.below b1 CB.out.lt)
  have H1 := Lib.hid (H0.out.below b1)
  have B1 := Lib.hid (B0.out.trans (b1.mono B0.out.size))
  clear hb1 b1 CB H0 B0
  go_wp2_with fail
  refine C1.out.mono ?_
  rintro e w2 ⟨A1, c1, rfl, own1, b2⟩
  have r1 := Lib.hid own1
  have hs1 := Lib.hid (show w.heap.size < w1.heap.size from Nat.lt_of_lt_of_le cb1.out.lt (Nat.le_refl _))
  have cb2 := Lib.hid (cb1.out.below b2 cb1.out.lt)
  have H2 := Lib.hid (H1.out.below b2)
  have B2 := Lib.hid (B1.out.trans (b2.mono B1.out.size))
  clear own1 b2 cb1 H1 B1 C1
  go_wp2_with fail
  refine (rbValues_walk H2.out hl).mono ?_
  rintro e w3 ⟨rfl, hb3, b3⟩
  have C3 := Lib.hid (numbers_walk w3 _ (t.kvs.map Prod.snd) t.count (by rw [List.length_map, hlen]) hl hb3)
  have cb3 := Lib.hid (cb2.out.below b3 cb2.out.lt)
  have H3 := Lib.hid (H2.out.below b3)
  have r3 := Lib.hid (own_below r1.out b3)
  have hs3 := Lib.hid (show w.heap.size < w3.heap.size from cb3.out.lt)
  have B3 := Lib.hid (B2.out.trans (b3.mono B2.out.size))
  clear hb3 b3 cb2 H2 B2 r1
  go_wp2_with fail
  refine C3.out.mono ?_
  rintro e w4 ⟨A2, c2, rfl, own4, b4⟩
  have s4 := Lib.hid own4
  have cb4 := Lib.hid (cb3.out.below b4 cb3.out.lt)
  have H4 := Lib.hid (H3.out.below b4)
  have r4 := Lib.hid (own_below r3.out b4)
  have B4 := Lib.hid (B3.out.trans (b4.mono B3.out.size))
  clear own4 b4 cb3 H3 B3 r3 C3
  go_wp2_with fail
  refine (rbSize_walk H4.out).mono ?_
  rintro e w5 ⟨rfl, rfl⟩
  go_wp2_with fail
  refine (rbEmpty_walk H4.out).mono ?_
  rintro e w5 ⟨rfl, rfl⟩
  have hc0 := cb4.out.cell 0
  have hc1 := cb4.out.cell 1
  have hc2 := cb4.out.cell 2
  have hc3 := cb4.out.cell 3
  have hf := cb4.out.frozen
  go_wp2_with fail
  have fb := Blk.set_ (Blk.set_ (Blk.set_ (Blk.set_ cb4.out 0 (.slice A1 t.count c1)) 1 (.slice A2 t.count c2)) 2 (.int .i64 t.count)) 3 (.bool ((t.count : Int) == 0))
  have Fin : StateOwn (set4 w4 w.heap.size (.slice A1 t.count c1) (.slice A2 t.count c2) (.int .i64 t.count) (.bool ((t.count : Int) == 0))) w.heap.size (.agg #[.slice A1 t.count c1, .slice A2 t.count c2, .int .i64 t.count, .bool ((t.count : Int) == 0)]) t.kvs ∧ Below w.heap.size w (set4 w4 w.heap.size (.slice A1 t.count c1) (.slice A2 t.count c2) (.int .i64 t.count) (.bool ((t.count : Int) == 0))) := by
    have h0 : StateOwn w4 (w.heap.size + 1) (.agg #[.slice A1 t.count c1, .slice A2 t.count c2, .int .i64 t.count, .bool ((t.count : Int) == 0)]) t.kvs :=
      ⟨A1, c1, A2, c2, by rw [hlen], by rw [hlen]; exact own_base r4.out hs1.out, by rw [hlen]; exact own_base s4.out hs3.out⟩
    refine ⟨StateOwn.less ((((h0.far (p := ⟨w.heap.size, 0, none⟩) (Nat.lt_succ_self _) _).far (p := ⟨w.heap.size, 1, none⟩) (Nat.lt_succ_self _) _).far (p := ⟨w.heap.size, 2, none⟩) (Nat.lt_succ_self _) _).far (p := ⟨w.heap.size, 3, none⟩) (Nat.lt_succ_self _) _) (Nat.le_succ _), ?_⟩
    exact (((B4.out.setCell (p := ⟨w.heap.size, 0, none⟩) (Nat.le_refl _) _).setCell (p := ⟨w.heap.size, 1, none⟩) (Nat.le_refl _) _).setCell (p := ⟨w.heap.size, 2, none⟩) (Nat.le_refl _) _).setCell (p := ⟨w.heap.size, 3, none⟩) (Nat.le_refl _) _
  refine bodyPost_ret (results_cell_row rfl _ _ w.heap.size _ _ (0, 0) _ rfl fb Try.underlying33 rfl state_size) rfl ?_
  exact ⟨_, rfl, Fin.1, Fin.2⟩

set_option maxHeartbeats 2000000 in
set_option maxRecDepth 100000 in
/-- The thin package's RedBlackState tells what the reference holds. -/
theorem implRedBlackState_walk (o : Ord) (ho : o.fine) (n cap : Nat) (A : Option Addr) (acts : List Do) (w : World) (hn : acts.length = n) (hn1 : n ≤ 1000) (ha : ActsAt w w.heap.size A acts) :
    Calls Try.prog 22 #[.agg #[.int .i64 o.kind, .int .i64 o.m], .slice A n cap] w fun e w' => ∃ v, e = .returned v ∧ StateOwn w' w.heap.size v (run o acts) ∧ Below w.heap.size w w' := by
  have hr := run_length_le o acts
  have Hr := Lib.hid hr
  have Ha := Lib.hid ha
  clear ha hr
  have b0 : Below w.heap.size w ((w.alloc (.cells #[.int .i64 o.kind, .int .i64 o.m] 23)).alloc (.cells #[.slice none 0 0, .slice none 0 0, .int .i64 0, .bool false] 33)) := ((Below.refl _ _).alloc (Nat.le_refl _) _).alloc (by simp) _
  have s0 : ((w.alloc (.cells #[.int .i64 o.kind, .int .i64 o.m] 23)).alloc (.cells #[.slice none 0 0, .slice none 0 0, .int .i64 0, .bool false] 33)).heap.size = w.heap.size + 1 + 1 := by simp
  have cb : Blk ((w.alloc (.cells #[.int .i64 o.kind, .int .i64 o.m] 23)).alloc (.cells #[.slice none 0 0, .slice none 0 0, .int .i64 0, .bool false] 33)) (w.heap.size + 1) 33 #[.slice none 0 0, .slice none 0 0, .int .i64 0, .bool false] := Blk.new' (by simp) _ _
  have c0 : Blk ((w.alloc (.cells #[.int .i64 o.kind, .int .i64 o.m] 23)).alloc (.cells #[.slice none 0 0, .slice none 0 0, .int .i64 0, .bool false] 33)) w.heap.size 23 #[.int .i64 o.kind, .int .i64 o.m] := Blk.alloc (Blk.new _ _ _) _
  have hd0 := c0.cell 0
  have hd1 := c0.cell 1
  have B0 := Lib.hid b0
  have S0 := Lib.hid s0
  have CB := Lib.hid cb
  clear b0 s0 cb c0
  go_enter Try.func22, Try.ntmps22
  go_wp2_with fail
  generalize ((w.alloc (.cells #[.int .i64 o.kind, .int .i64 o.m] 23)).alloc (.cells #[.slice none 0 0, .slice none 0 0, .int .i64 0, .bool false] 33)) = w0 at *
  refine (rb_walk o ho n cap A acts w0 hn hn1 ((Ha.out.below B0.out).more (by rw [S0.out]; omega))).mono ?_
  rintro e w1 ⟨tb, rfl, ⟨ob, t, ht, hk⟩, b1⟩
  have hc := BT.kvs_length t
  rw [hk] at hc
  have hs := rbStateOf_walk ht (by rw [← hc]; have := Hr.out; omega)
  rw [hk] at hs
  have C1 := Lib.hid hs
  have lt1 := Lib.hid (show w.heap.size + 1 < w1.heap.size by have := b1.size; have := S0.out; omega)
  have cb1 := Lib.hid (CB.out.below b1 CB.out.lt)
  have B1 := Lib.hid (B0.out.trans (b1.mono B0.out.size))
  clear hs b1 B0 CB ht hk hc Ha hd0 hd1
  go_wp2_with fail
  refine C1.out.mono ?_
  rintro e w2 ⟨v, rfl, hst, b2⟩
  obtain ⟨A1, c1, A2, c2, rfl, own1, own2⟩ := hst
  have cb2 := Lib.hid (cb1.out.below b2 cb1.out.lt)
  have B2 := Lib.hid (B1.out.trans (b2.mono B1.out.size))
  have lt2 := cb2.out.lt
  have hc0 := cb2.out.cell 0
  have hc1 := cb2.out.cell 1
  have hc2 := cb2.out.cell 2
  have hc3 := cb2.out.cell 3
  have hf := cb2.out.frozen
  generalize hl : run o acts = l at *
  have HL := Lib.hid hl
  clear hl
  have fb := Blk.set_ (Blk.set_ (Blk.set_ (Blk.set_ cb2.out 0 (.slice A1 l.length c1)) 1 (.slice A2 l.length c2)) 2 (.int .i64 l.length)) 3 (.bool ((l.length : Int) == 0))
  have fin : StateOwn (set4 w2 (w.heap.size + 1) (.slice A1 l.length c1) (.slice A2 l.length c2) (.int .i64 l.length) (.bool ((l.length : Int) == 0))) w.heap.size (.agg #[.slice A1 l.length c1, .slice A2 l.length c2, .int .i64 l.length, .bool ((l.length : Int) == 0)]) l ∧ Below w.heap.size w (set4 w2 (w.heap.size + 1) (.slice A1 l.length c1) (.slice A2 l.length c2) (.int .i64 l.length) (.bool ((l.length : Int) == 0))) := by
    have h0 : StateOwn w2 w1.heap.size (.agg #[.slice A1 l.length c1, .slice A2 l.length c2, .int .i64 l.length, .bool ((l.length : Int) == 0)]) l :=
      ⟨A1, c1, A2, c2, rfl, own1, own2⟩
    refine ⟨StateOwn.less ((((h0.far (p := ⟨w.heap.size + 1, 0, none⟩) lt1.out _).far (p := ⟨w.heap.size + 1, 1, none⟩) lt1.out _).far (p := ⟨w.heap.size + 1, 2, none⟩) lt1.out _).far (p := ⟨w.heap.size + 1, 3, none⟩) lt1.out _) (by have := lt1.out; omega), ?_⟩
    exact (((B2.out.setCell (p := ⟨w.heap.size + 1, 0, none⟩) (Nat.le_succ _) _).setCell (p := ⟨w.heap.size + 1, 1, none⟩) (Nat.le_succ _) _).setCell (p := ⟨w.heap.size + 1, 2, none⟩) (Nat.le_succ _) _).setCell (p := ⟨w.heap.size + 1, 3, none⟩) (Nat.le_succ _) _
  have FB := Lib.hid fb
  have Fin := Lib.hid fin
  clear fb fin own1 own2
  generalize hn' : (l.length : Int) = n' at *
  clear b2 cb1 B1 C1
  go_wp2_with fail
  refine bodyPost_ret (results_cell_row rfl _ _ (w.heap.size + 1) _ _ (0, 0) _ rfl FB.out Try.underlying33 rfl state_size) rfl ?_
  exact ⟨_, rfl, by rw [HL.out]; exact Fin.out.1, Fin.out.2⟩

end Go.Proofs.Ytmhkknobgcdkkaa.Rb
