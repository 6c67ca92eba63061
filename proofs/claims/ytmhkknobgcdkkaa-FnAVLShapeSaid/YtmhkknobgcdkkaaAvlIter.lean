/-
  The AVL tree's iterator: Iterator, Next, Prev, Begin, End, Key, Value.
-/
import Derived.Test.YtmhkknobgcdkkaaIter
import Derived.Test.YtmhkknobgcdkkaaAvlEnds
namespace Go.Proofs.Ytmhkknobgcdkkaa
open Go.RowKit

theorem itNext_start (w : World) (itb : Nat) (H : Hd) (t : BT) (s : St avlL w H [] t) (hb : Blk w itb 103 #[.pointer (some ⟨H.tb, 0, none⟩), .pointer none, .int .u8 0]) :
    Calls Try.prog 129 #[.pointer (some ⟨itb, 0, none⟩)] w fun e w' => e = .returned (.bool t.lo.isSome) ∧ Blk w' itb 103 #[.pointer (some ⟨H.tb, 0, none⟩), ptr t.lo, .int .u8 (if t.lo.isSome then 1 else 2)] ∧ Only [itb] w w' := by
  have ho := s.off hb (by decide) (by decide)
  have hb1 := Blk.set_ hb 2 (.int .u8 1)
  have on1 : Only [itb] w (w.setCell ⟨itb, 2, none⟩ (.int .u8 1)) := (Only.refl _ _).setCell (.inl (by simp)) _
  have c := avlLeft_walk _ H t (s.only1 ho on1)
  have hc0 := hb.cell 0
  have hc1 := hb.cell 1
  have hc2 := hb.cell 2
  have hf := hb.frozen
  cases hx : t.lo with
  | none =>
    rw [hx] at c
    simp only [ptr, Option.map_none] at c
    have C := Lib.hid c
    have fin : Blk (((w.setCell ⟨itb, 2, none⟩ (.int .u8 1)).setCell ⟨itb, 1, none⟩ (.pointer none)).setCell ⟨itb, 2, none⟩ (.int .u8 2)) itb 103 #[.pointer (some ⟨H.tb, 0, none⟩), ptr none, .int .u8 (if (none : Option Nat).isSome then 1 else 2)] ∧ Only [itb] w (((w.setCell ⟨itb, 2, none⟩ (.int .u8 1)).setCell ⟨itb, 1, none⟩ (.pointer none)).setCell ⟨itb, 2, none⟩ (.int .u8 2)) :=
      ⟨Blk.set_ (Blk.set_ hb1 1 (.pointer none)) 2 (.int .u8 2), (on1.setCell (.inl (by simp)) _).setCell (.inl (by simp)) _⟩
    have Fin := Lib.hid fin
    clear fin s hb ho hb1 on1 c hx
    go_enter Try.func129, Try.ntmps129
    go_wp2_with fail
    refine C.out.mono ?_
    rintro e w' ⟨rfl, rfl⟩
    clear C
    go_wp2_with fail
    go_ret
    exact ⟨rfl, Fin.out⟩
  | some j =>
    rw [hx] at c
    simp only [ptr, Option.map_some] at c
    have C := Lib.hid c
    have fin : Blk ((w.setCell ⟨itb, 2, none⟩ (.int .u8 1)).setCell ⟨itb, 1, none⟩ (.pointer (some ⟨j, 0, none⟩))) itb 103 #[.pointer (some ⟨H.tb, 0, none⟩), ptr (some j), .int .u8 (if (some j : Option Nat).isSome then 1 else 2)] ∧ Only [itb] w ((w.setCell ⟨itb, 2, none⟩ (.int .u8 1)).setCell ⟨itb, 1, none⟩ (.pointer (some ⟨j, 0, none⟩))) :=
      ⟨Blk.set_ hb1 1 _, (on1.setCell (.inl (by simp)) _)⟩
    have Fin := Lib.hid fin
    clear fin s hb ho hb1 on1 c hx
    go_enter Try.func129, Try.ntmps129
    go_wp2_with fail
    refine C.out.mono ?_
    rintro e w' ⟨rfl, rfl⟩
    clear C
    go_wp2_with fail
    go_ret
    exact ⟨rfl, Fin.out⟩
theorem itNext_on (w : World) (itb : Nat) (H : Hd) (c : Ctx) (i : Nat) (l : BT) (k v b : Int) (r : BT) (s : St avlL w H c (.node i l k v b r)) (hb : Blk w itb 103 #[.pointer (some ⟨H.tb, 0, none⟩), .pointer (some ⟨i, 0, none⟩), .int .u8 1]) :
    Calls Try.prog 129 #[.pointer (some ⟨itb, 0, none⟩)] w fun e w' => e = .returned (.bool (nextId c r).isSome) ∧ Blk w' itb 103 #[.pointer (some ⟨H.tb, 0, none⟩), ptr (nextId c r), .int .u8 (if (nextId c r).isSome then 1 else 2)] ∧ Only [itb] w w' := by
  have cn := avlNodeNext_walk _ H c i l k v b r s
  have hc0 := hb.cell 0
  have hc1 := hb.cell 1
  have hc2 := hb.cell 2
  have hf := hb.frozen
  generalize nextId c r = x at *
  cases x with
  | none =>
    simp only [ptr, Option.map_none] at cn
    have C := Lib.hid cn
    have fin : Blk ((w.setCell ⟨itb, 1, none⟩ (.pointer none)).setCell ⟨itb, 2, none⟩ (.int .u8 2)) itb 103 #[.pointer (some ⟨H.tb, 0, none⟩), ptr none, .int .u8 (if (none : Option Nat).isSome then 1 else 2)] ∧ Only [itb] w ((w.setCell ⟨itb, 1, none⟩ (.pointer none)).setCell ⟨itb, 2, none⟩ (.int .u8 2)) :=
      ⟨Blk.set_ (Blk.set_ hb 1 (.pointer none)) 2 (.int .u8 2), ((Only.refl _ _).setCell (.inl (by simp)) _).setCell (.inl (by simp)) _⟩
    have Fin := Lib.hid fin
    clear fin s hb cn
    go_enter Try.func129, Try.ntmps129
    go_wp2_with fail
    refine C.out.mono ?_
    rintro e w' ⟨rfl, rfl⟩
    clear C
    go_wp2_with fail
    go_ret
    exact ⟨rfl, Fin.out⟩
  | some j =>
    simp only [ptr, Option.map_some] at cn
    have C := Lib.hid cn
    have fin : Blk (w.setCell ⟨itb, 1, none⟩ (.pointer (some ⟨j, 0, none⟩))) itb 103 #[.pointer (some ⟨H.tb, 0, none⟩), ptr (some j), .int .u8 (if (some j : Option Nat).isSome then 1 else 2)] ∧ Only [itb] w (w.setCell ⟨itb, 1, none⟩ (.pointer (some ⟨j, 0, none⟩))) :=
      ⟨Blk.set_ hb 1 _, ((Only.refl _ _).setCell (.inl (by simp)) _)⟩
    have Fin := Lib.hid fin
    clear fin s hb cn
    go_enter Try.func129, Try.ntmps129
    go_wp2_with fail
    refine C.out.mono ?_
    rintro e w' ⟨rfl, rfl⟩
    clear C
    go_wp2_with fail
    go_ret
    exact ⟨rfl, Fin.out⟩
theorem itNext_end (w : World) (itb : Nat) (H : Hd) (hb : Blk w itb 103 #[.pointer (some ⟨H.tb, 0, none⟩), .pointer none, .int .u8 2]) :
    Calls Try.prog 129 #[.pointer (some ⟨itb, 0, none⟩)] w fun e w' => e = .returned (.bool false) ∧ Blk w' itb 103 #[.pointer (some ⟨H.tb, 0, none⟩), .pointer none, .int .u8 2] ∧ Only [itb] w w' := by
  have hc0 := hb.cell 0
  have hc1 := hb.cell 1
  have hc2 := hb.cell 2
  have hf := hb.frozen
  have fin : Blk (w.setCell ⟨itb, 2, none⟩ (.int .u8 2)) itb 103 #[.pointer (some ⟨H.tb, 0, none⟩), .pointer none, .int .u8 2] ∧ Only [itb] w (w.setCell ⟨itb, 2, none⟩ (.int .u8 2)) :=
    ⟨Blk.set_ hb 2 _, ((Only.refl _ _).setCell (.inl (by simp)) _)⟩
  have Fin := Lib.hid fin
  clear fin hb
  go_enter Try.func129, Try.ntmps129
  go_wp2_with fail
  go_ret
  exact ⟨rfl, Fin.out⟩

theorem itPrev_start (w : World) (itb : Nat) (H : Hd) (t : BT) (s : St avlL w H [] t) (hb : Blk w itb 103 #[.pointer (some ⟨H.tb, 0, none⟩), .pointer none, .int .u8 2]) :
    Calls Try.prog 131 #[.pointer (some ⟨itb, 0, none⟩)] w fun e w' => e = .returned (.bool t.hi.isSome) ∧ Blk w' itb 103 #[.pointer (some ⟨H.tb, 0, none⟩), ptr t.hi, .int .u8 (if t.hi.isSome then 1 else 0)] ∧ Only [itb] w w' := by
  have ho := s.off hb (by decide) (by decide)
  have hb1 := Blk.set_ hb 2 (.int .u8 1)
  have on1 : Only [itb] w (w.setCell ⟨itb, 2, none⟩ (.int .u8 1)) := (Only.refl _ _).setCell (.inl (by simp)) _
  have c := avlRight_walk _ H t (s.only1 ho on1)
  have hc0 := hb.cell 0
  have hc1 := hb.cell 1
  have hc2 := hb.cell 2
  have hf := hb.frozen
  cases hx : t.hi with
  | none =>
    rw [hx] at c
    simp only [ptr, Option.map_none] at c
    have C := Lib.hid c
    have fin : Blk (((w.setCell ⟨itb, 2, none⟩ (.int .u8 1)).setCell ⟨itb, 1, none⟩ (.pointer none)).setCell ⟨itb, 2, none⟩ (.int .u8 0)) itb 103 #[.pointer (some ⟨H.tb, 0, none⟩), ptr none, .int .u8 (if (none : Option Nat).isSome then 1 else 0)] ∧ Only [itb] w (((w.setCell ⟨itb, 2, none⟩ (.int .u8 1)).setCell ⟨itb, 1, none⟩ (.pointer none)).setCell ⟨itb, 2, none⟩ (.int .u8 0)) :=
      ⟨Blk.set_ (Blk.set_ hb1 1 (.pointer none)) 2 (.int .u8 0), (on1.setCell (.inl (by simp)) _).setCell (.inl (by simp)) _⟩
    have Fin := Lib.hid fin
    clear fin s hb ho hb1 on1 c hx
    go_enter Try.func131, Try.ntmps131
    go_wp2_with fail
    refine C.out.mono ?_
    rintro e w' ⟨rfl, rfl⟩
    clear C
    go_wp2_with fail
    go_ret
    exact ⟨rfl, Fin.out⟩
  | some j =>
    rw [hx] at c
    simp only [ptr, Option.map_some] at c
    have C := Lib.hid c
    have fin : Blk ((w.setCell ⟨itb, 2, none⟩ (.int .u8 1)).setCell ⟨itb, 1, none⟩ (.pointer (some ⟨j, 0, none⟩))) itb 103 #[.pointer (some ⟨H.tb, 0, none⟩), ptr (some j), .int .u8 (if (some j : Option Nat).isSome then 1 else 0)] ∧ Only [itb] w ((w.setCell ⟨itb, 2, none⟩ (.int .u8 1)).setCell ⟨itb, 1, none⟩ (.pointer (some ⟨j, 0, none⟩))) :=
      ⟨Blk.set_ hb1 1 _, (on1.setCell (.inl (by simp)) _)⟩
    have Fin := Lib.hid fin
    clear fin s hb ho hb1 on1 c hx
    go_enter Try.func131, Try.ntmps131
    go_wp2_with fail
    refine C.out.mono ?_
    rintro e w' ⟨rfl, rfl⟩
    clear C
    go_wp2_with fail
    go_ret
    exact ⟨rfl, Fin.out⟩
theorem itPrev_on (w : World) (itb : Nat) (H : Hd) (c : Ctx) (i : Nat) (l : BT) (k v b : Int) (r : BT) (s : St avlL w H c (.node i l k v b r)) (hb : Blk w itb 103 #[.pointer (some ⟨H.tb, 0, none⟩), .pointer (some ⟨i, 0, none⟩), .int .u8 1]) :
    Calls Try.prog 131 #[.pointer (some ⟨itb, 0, none⟩)] w fun e w' => e = .returned (.bool (prevId c l).isSome) ∧ Blk w' itb 103 #[.pointer (some ⟨H.tb, 0, none⟩), ptr (prevId c l), .int .u8 (if (prevId c l).isSome then 1 else 0)] ∧ Only [itb] w w' := by
  have cn := avlNodePrev_walk _ H c i l k v b r s
  have hc0 := hb.cell 0
  have hc1 := hb.cell 1
  have hc2 := hb.cell 2
  have hf := hb.frozen
  generalize prevId c l = x at *
  cases x with
  | none =>
    simp only [ptr, Option.map_none] at cn
    have C := Lib.hid cn
    have fin : Blk ((w.setCell ⟨itb, 1, none⟩ (.pointer none)).setCell ⟨itb, 2, none⟩ (.int .u8 0)) itb 103 #[.pointer (some ⟨H.tb, 0, none⟩), ptr none, .int .u8 (if (none : Option Nat).isSome then 1 else 0)] ∧ Only [itb] w ((w.setCell ⟨itb, 1, none⟩ (.pointer none)).setCell ⟨itb, 2, none⟩ (.int .u8 0)) :=
      ⟨Blk.set_ (Blk.set_ hb 1 (.pointer none)) 2 (.int .u8 0), ((Only.refl _ _).setCell (.inl (by simp)) _).setCell (.inl (by simp)) _⟩
    have Fin := Lib.hid fin
    clear fin s hb cn
    go_enter Try.func131, Try.ntmps131
    go_wp2_with fail
    refine C.out.mono ?_
    rintro e w' ⟨rfl, rfl⟩
    clear C
    go_wp2_with fail
    go_ret
    exact ⟨rfl, Fin.out⟩
  | some j =>
    simp only [ptr, Option.map_some] at cn
    have C := Lib.hid cn
    have fin : Blk (w.setCell ⟨itb, 1, none⟩ (.pointer (some ⟨j, 0, none⟩))) itb 103 #[.pointer (some ⟨H.tb, 0, none⟩), ptr (some j), .int .u8 (if (some j : Option Nat).isSome then 1 else 0)] ∧ Only [itb] w (w.setCell ⟨itb, 1, none⟩ (.pointer (some ⟨j, 0, none⟩))) :=
      ⟨Blk.set_ hb 1 _, ((Only.refl _ _).setCell (.inl (by simp)) _)⟩
    have Fin := Lib.hid fin
    clear fin s hb cn
    go_enter Try.func131, Try.ntmps131
    go_wp2_with fail
    refine C.out.mono ?_
    rintro e w' ⟨rfl, rfl⟩
    clear C
    go_wp2_with fail
    go_ret
    exact ⟨rfl, Fin.out⟩
theorem itPrev_end (w : World) (itb : Nat) (H : Hd) (hb : Blk w itb 103 #[.pointer (some ⟨H.tb, 0, none⟩), .pointer none, .int .u8 0]) :
    Calls Try.prog 131 #[.pointer (some ⟨itb, 0, none⟩)] w fun e w' => e = .returned (.bool false) ∧ Blk w' itb 103 #[.pointer (some ⟨H.tb, 0, none⟩), .pointer none, .int .u8 0] ∧ Only [itb] w w' := by
  have hc0 := hb.cell 0
  have hc1 := hb.cell 1
  have hc2 := hb.cell 2
  have hf := hb.frozen
  have fin : Blk (w.setCell ⟨itb, 2, none⟩ (.int .u8 0)) itb 103 #[.pointer (some ⟨H.tb, 0, none⟩), .pointer none, .int .u8 0] ∧ Only [itb] w (w.setCell ⟨itb, 2, none⟩ (.int .u8 0)) :=
    ⟨Blk.set_ hb 2 _, ((Only.refl _ _).setCell (.inl (by simp)) _)⟩
  have Fin := Lib.hid fin
  clear fin hb
  go_enter Try.func131, Try.ntmps131
  go_wp2_with fail
  go_ret
  exact ⟨rfl, Fin.out⟩

theorem itBegin_walk (w : World) (itb : Nat) (H : Hd) (x y : Value) (hb : Blk w itb 103 #[.pointer (some ⟨H.tb, 0, none⟩), x, y]) :
    Calls Try.prog 124 #[.pointer (some ⟨itb, 0, none⟩)] w fun e w' => e = .returned (.tuple #[]) ∧ Blk w' itb 103 #[.pointer (some ⟨H.tb, 0, none⟩), .pointer none, .int .u8 0] ∧ Only [itb] w w' := by
  have hc0 := hb.cell 0
  have hc1 := hb.cell 1
  have hc2 := hb.cell 2
  have hf := hb.frozen
  have fin : Blk ((w.setCell ⟨itb, 1, none⟩ (.pointer none)).setCell ⟨itb, 2, none⟩ (.int .u8 0)) itb 103 #[.pointer (some ⟨H.tb, 0, none⟩), .pointer none, .int .u8 0] ∧ Only [itb] w ((w.setCell ⟨itb, 1, none⟩ (.pointer none)).setCell ⟨itb, 2, none⟩ (.int .u8 0)) :=
    ⟨Blk.set_ (Blk.set_ hb 1 _) 2 _, ((Only.refl _ _).setCell (.inl (by simp)) _).setCell (.inl (by simp)) _⟩
  have Fin := Lib.hid fin
  clear fin hb
  go_enter Try.func124, Try.ntmps124
  go_wp2_with fail
  go_end0
  exact ⟨rfl, Fin.out⟩

theorem itEnd_walk (w : World) (itb : Nat) (H : Hd) (x y : Value) (hb : Blk w itb 103 #[.pointer (some ⟨H.tb, 0, none⟩), x, y]) :
    Calls Try.prog 125 #[.pointer (some ⟨itb, 0, none⟩)] w fun e w' => e = .returned (.tuple #[]) ∧ Blk w' itb 103 #[.pointer (some ⟨H.tb, 0, none⟩), .pointer none, .int .u8 2] ∧ Only [itb] w w' := by
  have hc0 := hb.cell 0
  have hc1 := hb.cell 1
  have hc2 := hb.cell 2
  have hf := hb.frozen
  have fin : Blk ((w.setCell ⟨itb, 1, none⟩ (.pointer none)).setCell ⟨itb, 2, none⟩ (.int .u8 2)) itb 103 #[.pointer (some ⟨H.tb, 0, none⟩), .pointer none, .int .u8 2] ∧ Only [itb] w ((w.setCell ⟨itb, 1, none⟩ (.pointer none)).setCell ⟨itb, 2, none⟩ (.int .u8 2)) :=
    ⟨Blk.set_ (Blk.set_ hb 1 _) 2 _, ((Only.refl _ _).setCell (.inl (by simp)) _).setCell (.inl (by simp)) _⟩
  have Fin := Lib.hid fin
  clear fin hb
  go_enter Try.func125, Try.ntmps125
  go_wp2_with fail
  go_end0
  exact ⟨rfl, Fin.out⟩

theorem itKey_walk (w : World) (itb : Nat) (H : Hd) (c : Ctx) (i : Nat) (l : BT) (k v b : Int) (r : BT) (s : St avlL w H c (.node i l k v b r)) (hb : Blk w itb 103 #[.pointer (some ⟨H.tb, 0, none⟩), .pointer (some ⟨i, 0, none⟩), .int .u8 1]) :
    Calls Try.prog 127 #[.pointer (some ⟨itb, 0, none⟩)] w fun e w' => e = .returned (.iface 3 (.int .i64 k)) ∧ w' = w := by
  have hc1 := hb.cell 1
  obtain ⟨hk0, hv1, _, _⟩ := s.ht.1.cells_
  clear s hb
  go_enter Try.func127, Try.ntmps127
  go_wp2_with fail
  go_ret
  exact ⟨rfl, rfl⟩

theorem itValue_walk (w : World) (itb : Nat) (H : Hd) (c : Ctx) (i : Nat) (l : BT) (k v b : Int) (r : BT) (s : St avlL w H c (.node i l k v b r)) (hb : Blk w itb 103 #[.pointer (some ⟨H.tb, 0, none⟩), .pointer (some ⟨i, 0, none⟩), .int .u8 1]) :
    Calls Try.prog 133 #[.pointer (some ⟨itb, 0, none⟩)] w fun e w' => e = .returned (.iface 3 (.int .i64 v)) ∧ w' = w := by
  have hc1 := hb.cell 1
  obtain ⟨hk0, hv1, _, _⟩ := s.ht.1.cells_
  clear s hb
  go_enter Try.func133, Try.ntmps133
  go_wp2_with fail
  go_ret
  exact ⟨rfl, rfl⟩

theorem avlIterator_walk (w : World) (tb : Nat) : Calls Try.prog 33 #[.pointer (some ⟨tb, 0, none⟩)] w fun e w' =>
    e = .returned (.iface 100 (.pointer (some ⟨w.heap.size, 0, none⟩))) ∧ w' = w.alloc (.cells #[.pointer (some ⟨tb, 0, none⟩), .pointer none, .int .u8 0] 103) := by
  go_enter Try.func33, Try.ntmps33
  go_wp2_with fail
  go_ret
  exact ⟨rfl, rfl⟩

/-- An iterator over a tree, at a place. -/
structure AvlItAt (o : Ord) (ob B : Nat) (w : World) (tb itb : Nat) (t : BT) (p : Nat) : Prop where
  at_ : AvlAt o ob B w tb t
  it : Blk w itb 103 (itCells tb t.ord p)
  le : p ≤ t.count + 1
  lo : B ≤ itb
def AvlIt (o : Ord) (B : Nat) (w : World) (tb itb : Nat) (l : KV) (p : Nat) : Prop := ∃ ob t, AvlItAt o ob B w tb itb t p ∧ t.kvs = l

section
variable {o : Ord} {ob B tb itb p : Nat} {w w' : World} {t : BT}
theorem AvlItAt.move {p' : Nat} (h : AvlItAt o ob B w tb itb t p) (k : Only [itb] w w') (hb : Blk w' itb 103 (itCells tb t.ord p')) (hp : p' ≤ t.count + 1) : AvlItAt o ob B w' tb itb t p' := by
  have ho := h.at_.st.off h.it (by decide) (by decide)
  have hob : itb ≠ ob := Blk.ne_ h.it h.at_.ord (by decide)
  refine ⟨h.at_.same fun b hb' => k.block b (h.at_.lt b hb') fun hm => (?_ : False), hb, hp, h.lo⟩
  simp only [List.mem_singleton] at hm
  subst hm
  rcases List.mem_cons.1 hb' with e | e
  · exact hob e
  · exact ho e
theorem AvlItAt.only {S : List Nat} (h : AvlItAt o ob B w tb itb t p) (k : Only S w w') (hs : ∀ b ∈ S, b ∉ ob :: tb :: itb :: t.ids) : AvlItAt o ob B w' tb itb t p := by
  have hsz := h.at_.lt
  refine ⟨h.at_.same fun b hb => k.block b (hsz b hb) fun hm => ?_, h.it.same (k.block _ h.it.lt fun hm => hs _ hm (by simp)), h.le, h.lo⟩
  refine hs b hm ?_
  simp only [List.mem_cons] at hb ⊢
  rcases hb with e | e | e
  · exact .inl e
  · exact .inr (.inl e)
  · exact .inr (.inr (.inr e))
theorem AvlItAt.fits (h : AvlItAt o ob B w tb itb t p) : (p = 0 ∧ itCells tb t.ord p = #[.pointer (some ⟨tb, 0, none⟩), .pointer none, .int .u8 0]) ∨ (p = t.count + 1 ∧ itCells tb t.ord p = #[.pointer (some ⟨tb, 0, none⟩), .pointer none, .int .u8 2]) ∨
    ∃ q, p = q + 1 ∧ q < t.count ∧ ∃ c i l k v b r, St avlL w ⟨tb, cmpv ob, t.count⟩ c (.node i l k v b r) ∧ t.ord[q]? = some i ∧ t.kvs[q]? = some (k, v) ∧ nextId c r = t.ord[q + 1]? ∧ (prevId c l = if q = 0 then none else t.ord[q - 1]?) ∧ itCells tb t.ord p = #[.pointer (some ⟨tb, 0, none⟩), .pointer (some ⟨i, 0, none⟩), .int .u8 1] := by
  by_cases h0 : p = 0
  · subst h0; exact .inl ⟨rfl, itCells_zero _ _⟩
  · by_cases h1 : p = t.count + 1
    · refine .inr (.inl ⟨h1, ?_⟩)
      rw [h1, ← BT.ord_length]; exact itCells_end _ _
    · have hle := h.le
      obtain ⟨q, rfl⟩ : ∃ q, p = q + 1 := ⟨p - 1, by omega⟩
      obtain ⟨c, i, l, k, v, b, r, h2, h3, h4, h5, h6⟩ := h.at_.st.at_place (p := q) (by omega)
      exact .inr (.inr ⟨q, rfl, by omega, c, i, l, k, v, b, r, h2, h3, h4, h5, h6, itCells_at _ _ h3⟩)

theorem avlItNext_walk (h : AvlItAt o ob B w tb itb t p) :
    Calls Try.prog 129 #[.pointer (some ⟨itb, 0, none⟩)] w fun e w' => e = .returned (.bool (decide (p < t.count))) ∧ AvlItAt o ob B w' tb itb t (min (p + 1) (t.count + 1)) ∧ Only [itb] w w' := by
  have hit := h.it
  have hn := BT.ord_length t
  rcases h.fits with ⟨rfl, e⟩ | ⟨rfl, e⟩ | ⟨q, rfl, hq, c, i, l, k, v, b, r, hst, h1, h2, h3, h4, e⟩
  · rw [e] at hit
    refine (itNext_start w itb ⟨tb, cmpv ob, t.count⟩ t h.at_.st hit).mono ?_
    rintro e w' ⟨rfl, hb, on⟩
    have hlo := lo_at t
    by_cases h0 : t.count = 0
    · have e1 : t.lo = none := by rw [hlo, List.getElem?_eq_none (by omega)]
      rw [e1] at hb
      refine ⟨by rw [e1]; simp [h0], h.move on ?_ (by omega), on⟩
      rw [h0, show min (0 + 1) (0 + 1) = t.ord.length + 1 by omega, itCells_end]
      exact hb
    · obtain ⟨j, hj⟩ : ∃ j, t.ord[0]? = some j := ⟨_, List.getElem?_eq_getElem (by omega)⟩
      rw [hlo, hj] at hb
      refine ⟨by rw [hlo, hj]; simp; omega, h.move on ?_ (by omega), on⟩
      rw [show min (0 + 1) (t.count + 1) = 0 + 1 by omega, itCells_at _ _ hj]
      exact hb
  · rw [e] at hit
    refine (itNext_end w itb ⟨tb, cmpv ob, t.count⟩ hit).mono ?_
    rintro e w' ⟨rfl, hb, on⟩
    refine ⟨by simp, h.move on ?_ (by omega), on⟩
    rw [show min (t.count + 1 + 1) (t.count + 1) = t.ord.length + 1 by omega, itCells_end]
    exact hb
  · rw [e] at hit
    refine (itNext_on w itb ⟨tb, cmpv ob, t.count⟩ c i l k v b r hst hit).mono ?_
    rintro e w' ⟨rfl, hb, on⟩
    rw [h3] at hb ⊢
    by_cases h0 : q + 1 < t.count
    · obtain ⟨j, hj⟩ : ∃ j, t.ord[q + 1]? = some j := ⟨_, List.getElem?_eq_getElem (by omega)⟩
      rw [hj] at hb ⊢
      refine ⟨by simp [h0], h.move on ?_ (by omega), on⟩
      rw [show min (q + 1 + 1) (t.count + 1) = q + 1 + 1 by omega, itCells_at _ _ hj]
      exact hb
    · have e1 : t.ord[q + 1]? = none := List.getElem?_eq_none (by omega)
      rw [e1] at hb ⊢
      refine ⟨by simp [h0], h.move on ?_ (by omega), on⟩
      rw [show min (q + 1 + 1) (t.count + 1) = t.ord.length + 1 by omega, itCells_end]
      exact hb
theorem avlItPrev_walk (h : AvlItAt o ob B w tb itb t p) :
    Calls Try.prog 131 #[.pointer (some ⟨itb, 0, none⟩)] w fun e w' => e = .returned (.bool (decide (1 < p))) ∧ AvlItAt o ob B w' tb itb t (p - 1) ∧ Only [itb] w w' := by
  have hit := h.it
  have hn := BT.ord_length t
  rcases h.fits with ⟨rfl, e⟩ | ⟨rfl, e⟩ | ⟨q, rfl, hq, c, i, l, k, v, b, r, hst, h1, h2, h3, h4, e⟩
  · rw [e] at hit
    refine (itPrev_end w itb ⟨tb, cmpv ob, t.count⟩ hit).mono ?_
    rintro e w' ⟨rfl, hb, on⟩
    exact ⟨by simp, h.move on hb (by omega), on⟩
  · rw [e] at hit
    refine (itPrev_start w itb ⟨tb, cmpv ob, t.count⟩ t h.at_.st hit).mono ?_
    rintro e w' ⟨rfl, hb, on⟩
    have hlo := hi_at t
    by_cases h0 : t.count = 0
    · have e1 : t.hi = none := by rw [hlo, List.getElem?_eq_none (by omega)]
      rw [e1] at hb
      refine ⟨by rw [e1]; simp [h0], h.move on ?_ (by omega), on⟩
      rw [h0, show 0 + 1 - 1 = 0 by omega, itCells_zero]
      exact hb
    · obtain ⟨j, hj⟩ : ∃ j, t.ord[t.ord.length - 1]? = some j := ⟨_, List.getElem?_eq_getElem (by omega)⟩
      rw [hlo, hj] at hb
      refine ⟨by rw [hlo, hj]; simp; omega, h.move on ?_ (by omega), on⟩
      rw [show t.count + 1 - 1 = (t.ord.length - 1) + 1 by omega, itCells_at _ _ hj]
      exact hb
  · rw [e] at hit
    refine (itPrev_on w itb ⟨tb, cmpv ob, t.count⟩ c i l k v b r hst hit).mono ?_
    rintro e w' ⟨rfl, hb, on⟩
    rw [h4] at hb ⊢
    by_cases h0 : q = 0
    · rw [if_pos h0] at hb ⊢
      subst h0
      exact ⟨by simp, h.move on hb (by omega), on⟩
    · rw [if_neg h0] at hb ⊢
      obtain ⟨j, hj⟩ : ∃ j, t.ord[q - 1]? = some j := ⟨_, List.getElem?_eq_getElem (by omega)⟩
      rw [hj] at hb ⊢
      refine ⟨by simp; omega, h.move on ?_ (by omega), on⟩
      rw [show q + 1 - 1 = q - 1 + 1 by omega, itCells_at _ _ hj]
      exact hb
theorem avlItBegin_walk (h : AvlItAt o ob B w tb itb t p) :
    Calls Try.prog 124 #[.pointer (some ⟨itb, 0, none⟩)] w fun e w' => e = .returned (.tuple #[]) ∧ AvlItAt o ob B w' tb itb t 0 ∧ Only [itb] w w' := by
  refine (itBegin_walk w itb ⟨tb, cmpv ob, t.count⟩ _ _ h.it).mono ?_
  rintro e w' ⟨rfl, hb, on⟩
  exact ⟨rfl, h.move on hb (by omega), on⟩
theorem avlItEnd_walk (h : AvlItAt o ob B w tb itb t p) :
    Calls Try.prog 125 #[.pointer (some ⟨itb, 0, none⟩)] w fun e w' => e = .returned (.tuple #[]) ∧ AvlItAt o ob B w' tb itb t (t.count + 1) ∧ Only [itb] w w' := by
  refine (itEnd_walk w itb ⟨tb, cmpv ob, t.count⟩ _ _ h.it).mono ?_
  rintro e w' ⟨rfl, hb, on⟩
  refine ⟨rfl, h.move on ?_ (by omega), on⟩
  rw [← BT.ord_length, itCells_end]
  exact hb
theorem avlItKey_walk {q : Nat} {k v : Int} (h : AvlItAt o ob B w tb itb t (q + 1)) (hq : t.kvs[q]? = some (k, v)) :
    Calls Try.prog 127 #[.pointer (some ⟨itb, 0, none⟩)] w fun e w' => e = .returned (.iface 3 (.int .i64 k)) ∧ w' = w := by
  have hlt : q < t.count := by
    rcases Nat.lt_or_ge q t.count with h' | h'
    · exact h'
    · rw [List.getElem?_eq_none (by rw [BT.kvs_length]; exact h')] at hq; cases hq
  have hit := h.it
  rcases h.fits with ⟨e0, e⟩ | ⟨e0, e⟩ | ⟨q', e0, hq', c, i, l, k', v', b, r, hst, h1, h2, h3, h4, e⟩
  · omega
  · omega
  · obtain rfl : q = q' := by omega
    rw [hq] at h2
    obtain ⟨rfl, rfl⟩ : k = k' ∧ v = v' := by simpa using h2
    rw [e] at hit
    exact itKey_walk w itb ⟨tb, cmpv ob, t.count⟩ c i l k v b r hst hit
theorem avlItValue_walk {q : Nat} {k v : Int} (h : AvlItAt o ob B w tb itb t (q + 1)) (hq : t.kvs[q]? = some (k, v)) :
    Calls Try.prog 133 #[.pointer (some ⟨itb, 0, none⟩)] w fun e w' => e = .returned (.iface 3 (.int .i64 v)) ∧ w' = w := by
  have hlt : q < t.count := by
    rcases Nat.lt_or_ge q t.count with h' | h'
    · exact h'
    · rw [List.getElem?_eq_none (by rw [BT.kvs_length]; exact h')] at hq; cases hq
  have hit := h.it
  rcases h.fits with ⟨e0, e⟩ | ⟨e0, e⟩ | ⟨q', e0, hq', c, i, l, k', v', b, r, hst, h1, h2, h3, h4, e⟩
  · omega
  · omega
  · obtain rfl : q = q' := by omega
    rw [hq] at h2
    obtain ⟨rfl, rfl⟩ : k = k' ∧ v = v' := by simpa using h2
    rw [e] at hit
    exact itValue_walk w itb ⟨tb, cmpv ob, t.count⟩ c i l k v b r hst hit
end

end Go.Proofs.Ytmhkknobgcdkkaa
