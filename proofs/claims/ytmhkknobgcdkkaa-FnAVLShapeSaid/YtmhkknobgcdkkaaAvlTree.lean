/-
  The AVL tree as a whole: what it holds, and its methods Put, Remove, Clear, Size and Empty.
-/
import Derived.Test.YtmhkknobgcdkkaaAvlRem
namespace Go.Proofs.Ytmhkknobgcdkkaa
open Go.RowKit

/-- The tree t stands in memory, at header tb, with its order; all its blocks are new since B. -/
structure AvlAt (o : Ord) (ob B : Nat) (w : World) (tb : Nat) (t : BT) : Prop where
  st : St avlL w ⟨tb, cmpv ob, t.count⟩ [] t
  ok : Avl.ok t
  asc : Asc o t.kvs
  fine : o.fine
  ord : OrdAt w ob o
  ne : ob ∉ tb :: t.ids
  lo : B ≤ ob ∧ ∀ b ∈ tb :: t.ids, B ≤ b

/-- It holds these pairs. -/
def AvlHas (o : Ord) (B : Nat) (w : World) (tb : Nat) (l : KV) : Prop := ∃ ob t, AvlAt o ob B w tb t ∧ t.kvs = l

section
variable {o : Ord} {ob B tb : Nat} {w w' : World} {t : BT}
theorem AvlAt.same (h : AvlAt o ob B w tb t) (e : ∀ b, b ∈ ob :: tb :: t.ids → w'.heap[b]? = w.heap[b]?) : AvlAt o ob B w' tb t :=
  ⟨h.st.same (fun b hb => e b (by simpa [allIds, Ctx.ids] using Or.inr hb)), h.ok, h.asc, h.fine, Blk.same h.ord (e ob (by simp)), h.ne, h.lo⟩
theorem AvlAt.lt (h : AvlAt o ob B w tb t) : ∀ b ∈ ob :: tb :: t.ids, b < w.heap.size := fun b hb => by
  rcases List.mem_cons.1 hb with rfl | hb
  · exact h.ord.lt
  · exact h.st.lt b (by simpa [allIds, Ctx.ids] using hb)
theorem AvlAt.below (h : AvlAt o ob B w tb t) (k : Below w.heap.size w w') : AvlAt o ob B w' tb t := h.same fun b hb => k.block b (h.lt b hb)
theorem AvlAt.below' {C : Nat} (h : AvlAt o ob B w tb t) (k : Below C w w') (hC : ∀ b ∈ ob :: tb :: t.ids, b < C) : AvlAt o ob B w' tb t := h.same fun b hb => k.block b (hC b hb)
theorem AvlAt.allIds_eq : allIds ⟨tb, cmpv ob, t.count⟩ [] t = tb :: t.ids := by simp [allIds, Ctx.ids]

theorem PutPost.lift {k v : Int} {e : Ending} (h : AvlAt o ob B w tb t) (p : PutPost o k v ⟨tb, cmpv ob, t.count⟩ [] t w e w') :
    (∃ b, e = .returned (.bool b)) ∧ (∃ t', AvlAt o ob B w' tb t' ∧ t'.kvs = ins o k v t.kvs) ∧ Below B w w' := by
  obtain ⟨n, hn, rfl, st, on⟩ := p
  rw [AvlAt.allIds_eq] at on
  have hob := h.ord.lt
  have hBl : ∀ b ∈ tb :: t.ids, B ≤ b := h.lo.2
  have hk := Avl.kvs_put (o := o) (n := n) (k := k) (v := v) h.asc
  have hids : ∀ b ∈ tb :: (Avl.put o n k v t).1.ids, b = n ∨ b ∈ tb :: t.ids := fun b hb => by
    rcases List.mem_cons.1 hb with rfl | hb
    · exact .inr (by simp)
    · rcases Avl.mem_ids_put hb with e | e
      · exact .inl e
      · exact .inr (by simp [e])
  refine ⟨⟨_, rfl⟩, ⟨_, ⟨?_, (Avl.put_ok h.ok).1, by rw [hk]; exact h.asc.ins, h.fine, h.ord.only on h.ne, ?_, h.lo.1, ?_⟩, hk⟩, on.below hBl (by have := h.lo.1; omega)⟩
  · have e : ((t.count : Int) + if Avl.has o k t then 0 else 1) = (Avl.put o n k v t).1.count := by
      rw [← BT.kvs_length (Avl.put o n k v t).1, hk, ins_length h.asc, Avl.has_look h.asc, BT.kvs_length]
      split <;> simp
    simpa only [e] using st
  · intro hm
    rcases hids _ hm with e | e
    · omega
    · exact h.ne e
  · intro b hb
    rcases hids _ hb with e | e
    · have := h.lo.1; omega
    · exact hBl b e
theorem RemPost.lift {k : Int} {e : Ending} (h : AvlAt o ob B w tb t) (p : RemPost o k ⟨tb, cmpv ob, t.count⟩ [] t w e w') :
    (∃ b, e = .returned (.bool b)) ∧ (∃ t', AvlAt o ob B w' tb t' ∧ t'.kvs = del o k t.kvs) ∧ Below B w w' := by
  obtain ⟨rfl, st, on⟩ := p
  rw [AvlAt.allIds_eq] at on
  have hob := h.ord.lt
  have hBl : ∀ b ∈ tb :: t.ids, B ≤ b := h.lo.2
  have hk := Avl.kvs_remove (o := o) (k := k) h.asc
  have hids : ∀ b ∈ tb :: (Avl.remove o k t).1.ids, b ∈ tb :: t.ids := fun b hb => by
    rcases List.mem_cons.1 hb with rfl | hb
    · simp
    · simp [Avl.mem_ids_remove hb]
  refine ⟨⟨_, rfl⟩, ⟨_, ⟨?_, (Avl.remove_ok h.ok).1, by rw [hk]; exact h.asc.del, h.fine, h.ord.only on h.ne, fun hm => h.ne (hids _ hm), h.lo.1, fun b hb => hBl b (hids _ hb)⟩, hk⟩, on.below hBl (by have := h.lo.1; omega)⟩
  have e : ((t.count : Int) - if Avl.has o k t then 1 else 0) = (Avl.remove o k t).1.count := by
    rw [← BT.kvs_length (Avl.remove o k t).1, hk, del_length, Avl.has_look h.asc, BT.kvs_length]
    split
    · rename_i hs
      have : 0 < t.count := by
        rw [← BT.kvs_length]
        cases hl : t.kvs with
        | nil => rw [hl] at hs; simp [look] at hs
        | cons x l => simp
      omega
    · simp
  simpa only [e] using st

theorem avlPut_walk (h : AvlAt o ob B w tb t) (k v : Int) (hl : t.count ≤ 100000) :
    Calls Try.prog 70 #[.pointer (some ⟨tb, 0, none⟩), .iface 3 (.int .i64 k), .iface 3 (.int .i64 v)] w fun e w' =>
      e = .returned (.tuple #[]) ∧ (∃ t', AvlAt o ob B w' tb t' ∧ t'.kvs = ins o k v t.kvs) ∧ Below B w w' := by
  have p := put_walk o h.fine ob k v t [] w ⟨tb, cmpv ob, t.count⟩ h.st h.ok rfl h.ord (by rw [AvlAt.allIds_eq]; exact h.ne) (by simp) (by simp; omega)
  simp only [Ctx.par, ptr, Option.map_none, slot] at p
  have P := Lib.hid p
  have H := Lib.hid h
  clear p h
  go_enter Try.func70, Try.ntmps70
  go_wp2_with fail
  refine P.out.mono ?_
  intro e w' hp
  obtain ⟨⟨b, rfl⟩, h2, h3⟩ := PutPost.lift H.out hp
  have H2 := Lib.hid h2
  have H3 := Lib.hid h3
  clear h2 h3 hp
  go_wp2_with fail
  go_end0
  exact ⟨rfl, H2.out, H3.out⟩
theorem avlRemove_walk (h : AvlAt o ob B w tb t) (k : Int) (hl : t.count ≤ 100000) :
    Calls Try.prog 71 #[.pointer (some ⟨tb, 0, none⟩), .iface 3 (.int .i64 k)] w fun e w' =>
      e = .returned (.tuple #[]) ∧ (∃ t', AvlAt o ob B w' tb t' ∧ t'.kvs = del o k t.kvs) ∧ Below B w w' := by
  have p := remove_walk o h.fine ob k t [] w ⟨tb, cmpv ob, t.count⟩ h.st h.ok rfl h.ord (by rw [AvlAt.allIds_eq]; exact h.ne) (by simp) (by simp; omega)
  simp only [slot] at p
  have P := Lib.hid p
  have H := Lib.hid h
  clear p h
  go_enter Try.func71, Try.ntmps71
  go_wp2_with fail
  refine P.out.mono ?_
  intro e w' hp
  obtain ⟨⟨b, rfl⟩, h2, h3⟩ := RemPost.lift H.out hp
  have H2 := Lib.hid h2
  have H3 := Lib.hid h3
  clear h2 h3 hp
  go_wp2_with fail
  go_end0
  exact ⟨rfl, H2.out, H3.out⟩
theorem avlClear_walk (h : AvlAt o ob B w tb t) :
    Calls Try.prog 67 #[.pointer (some ⟨tb, 0, none⟩)] w fun e w' =>
      e = .returned (.tuple #[]) ∧ (∃ t', AvlAt o ob B w' tb t' ∧ t'.kvs = []) ∧ Below B w w' := by
  obtain ⟨hh2, _, hhf⟩ := h.st.hc.header
  obtain ⟨hsl, hslf⟩ := h.st.hc.slot_cell
  have hb : Blk w tb avlL.tt (avlL.head ⟨tb, cmpv ob, t.count⟩ t.root) := h.st.hc
  have hb2 := (hb.set_ 0 (ptr none)).set_ 2 (.int .i64 0)
  have fin : (∃ t', AvlAt o ob B ((w.setCell ⟨tb, 0, none⟩ (.pointer none)).setCell ⟨tb, 2, none⟩ (.int .i64 0)) tb t' ∧ t'.kvs = []) ∧ Below B w ((w.setCell ⟨tb, 0, none⟩ (.pointer none)).setCell ⟨tb, 2, none⟩ (.int .i64 0)) := by
    have hBt : B ≤ tb := h.lo.2 tb (by simp)
    have hot : ob ≠ tb := fun e => h.ne (by simp [e])
    refine ⟨⟨.nil, ⟨⟨hb2, trivial, by simp [allIds, Ctx.ids, BT.ids]⟩, trivial, Asc.nil o, h.fine, Blk.far (Blk.far h.ord hot _) hot _, by simpa [BT.ids] using hot, h.lo.1, by simpa [BT.ids] using hBt⟩, rfl⟩, ?_⟩
    exact ((Below.refl B w).setCell (p := ⟨tb, 0, none⟩) hBt _).setCell (p := ⟨tb, 2, none⟩) hBt _
  simp only [slot, ptr, Lay.os, if_true] at hh2 hsl hslf
  have Fin := Lib.hid fin
  clear fin hb hb2 h
  go_enter Try.func67, Try.ntmps67
  go_wp2_with fail
  go_end0
  exact ⟨rfl, Fin.out⟩
theorem avlSize_walk (h : AvlAt o ob B w tb t) : Calls Try.prog 72 #[.pointer (some ⟨tb, 0, none⟩)] w fun e w' => e = .returned (.int .i64 t.count) ∧ w = w' := by
  obtain ⟨hh2, _, _⟩ := h.st.hc.header
  simp only [Lay.os, if_true] at hh2
  clear h
  go_enter Try.func72, Try.ntmps72
  go_wp2_with fail
  go_ret
  exact ⟨rfl, rfl⟩
theorem avlEmpty_walk (h : AvlAt o ob B w tb t) : Calls Try.prog 68 #[.pointer (some ⟨tb, 0, none⟩)] w fun e w' => e = .returned (.bool (((t.count : Nat) : Int) == 0)) ∧ w = w' := by
  obtain ⟨hh2, _, _⟩ := h.st.hc.header
  simp only [Lay.os, if_true] at hh2
  clear h
  generalize (t.count : Int) = n at *
  go_enter Try.func68, Try.ntmps68
  go_wp2_with fail
  go_ret
  exact ⟨rfl, rfl⟩
theorem AvlHas.below {l : KV} (h : AvlHas o B w tb l) (k : Below w.heap.size w w') : AvlHas o B w' tb l := by
  obtain ⟨ob, t, ht, e⟩ := h
  exact ⟨ob, t, ht.below k, e⟩
theorem AvlHas.alloc {l : KV} (h : AvlHas o B w tb l) (x : Obj) : AvlHas o B (w.alloc x) tb l := h.below ((Below.refl _ _).alloc (Nat.le_refl _) x)
theorem AvlHas.size {l : KV} (h : AvlHas o B w tb l) : B ≤ w.heap.size := by
  obtain ⟨ob, t, ht, _⟩ := h
  have := ht.ord.lt; have := ht.lo.1; omega
theorem AvlHas.asc {l : KV} (h : AvlHas o B w tb l) : Asc o l := by
  obtain ⟨ob, t, ht, e⟩ := h
  exact e ▸ ht.asc
theorem avlPut_has {l : KV} (h : AvlHas o B w tb l) (k v : Int) (hl : l.length ≤ 100000) :
    Calls Try.prog 70 #[.pointer (some ⟨tb, 0, none⟩), .iface 3 (.int .i64 k), .iface 3 (.int .i64 v)] w fun e w' =>
      e = .returned (.tuple #[]) ∧ AvlHas o B w' tb (ins o k v l) ∧ Below B w w' := by
  obtain ⟨ob, t, ht, rfl⟩ := h
  refine (avlPut_walk ht k v (by rw [← BT.kvs_length]; exact hl)).mono ?_
  rintro e w' ⟨h1, ⟨t', h2, h3⟩, h4⟩
  exact ⟨h1, ⟨ob, t', h2, h3⟩, h4⟩
theorem avlRemove_has {l : KV} (h : AvlHas o B w tb l) (k : Int) (hl : l.length ≤ 100000) :
    Calls Try.prog 71 #[.pointer (some ⟨tb, 0, none⟩), .iface 3 (.int .i64 k)] w fun e w' =>
      e = .returned (.tuple #[]) ∧ AvlHas o B w' tb (del o k l) ∧ Below B w w' := by
  obtain ⟨ob, t, ht, rfl⟩ := h
  refine (avlRemove_walk ht k (by rw [← BT.kvs_length]; exact hl)).mono ?_
  rintro e w' ⟨h1, ⟨t', h2, h3⟩, h4⟩
  exact ⟨h1, ⟨ob, t', h2, h3⟩, h4⟩
theorem avlClear_has {l : KV} (h : AvlHas o B w tb l) :
    Calls Try.prog 67 #[.pointer (some ⟨tb, 0, none⟩)] w fun e w' =>
      e = .returned (.tuple #[]) ∧ AvlHas o B w' tb [] ∧ Below B w w' := by
  obtain ⟨ob, t, ht, rfl⟩ := h
  refine (avlClear_walk ht).mono ?_
  rintro e w' ⟨h1, ⟨t', h2, h3⟩, h4⟩
  exact ⟨h1, ⟨ob, t', h2, h3⟩, h4⟩
end
end Go.Proofs.Ytmhkknobgcdkkaa
