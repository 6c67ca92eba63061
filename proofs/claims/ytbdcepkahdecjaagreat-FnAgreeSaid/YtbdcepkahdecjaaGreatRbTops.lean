/-
  Several texts as one (RbTree, RbEnds, RbMake): each says its own in its remarks.
-/
import Derived.Test.YtbdcepkahdecjaaGreatRbRems
import Derived.Test.YtbdcepkahdecjaaGreatIter
import Derived.Test.YtbdcepkahdecjaaGreatPures
import Derived.Deep.LoopGhost
import Derived.Test.YtbdcepkahdecjaaGreatBases
import Derived.Test.YtbdcepkahdecjaaGreatRows0
namespace Go.Proofs.YtbdcepkahdecjaaGreat.Rb
open Go.RowKit Go.Proofs.YtbdcepkahdecjaaGreat
theorem cut_shape {c : Ctx} {i : Nat} {l r : BT} {k v b : Int} {m : Nat} (hh : Hole c m) (hb : BH (.node i l k v b r) m) (hc : b = 1 ∨ pcol c = 1) (h : l = .nil ∨ r = .nil) :
    (b = 1 ∧ Hole c 1 ∧ ((l = .nil ∧ r = .nil) ∨ (∃ x xl kx vx xr, l = .node x xl kx vx 0 xr ∧ r = .nil) ∨ (∃ x xl kx vx xr, l = .nil ∧ r = .node x xl kx vx 0 xr))) ∨ (b = 0 ∧ l = .nil ∧ r = .nil ∧ ∃ f x0, c = f :: x0) := by
  have red : ∀ {t : BT}, BH t 0 → t = .nil ∨ ∃ x xl kx vx xr, t = .node x xl kx vx 0 xr := fun {t} ht => by
    rcases col_cases ht with h | h
    · exact .inr (col_node h)
    · exact .inl (bh_zero ht h)
  rcases hb with ⟨rfl, m', rfl, hl, hr⟩ | ⟨rfl, hl, hr, cl, cr⟩
  · have hm : m' = 0 := by rcases h with rfl | rfl <;> assumption
    subst hm
    refine .inl ⟨rfl, hh, ?_⟩
    rcases h with rfl | rfl
    · rcases red hr with rfl | ⟨x, xl, kx, vx, xr, rfl⟩
      · exact .inl ⟨rfl, rfl⟩
      · exact .inr (.inr ⟨x, xl, kx, vx, xr, rfl, rfl⟩)
    · rcases red hl with rfl | ⟨x, xl, kx, vx, xr, rfl⟩
      · exact .inl ⟨rfl, rfl⟩
      · exact .inr (.inl ⟨x, xl, kx, vx, xr, rfl, rfl⟩)
  · have hm : m = 0 := by rcases h with rfl | rfl <;> assumption
    subst hm
    refine .inr ⟨rfl, bh_zero hl cl, bh_zero hr cr, ?_⟩
    cases c with
    | nil => simp [pcol] at hc
    | cons f x0 => exact ⟨f, x0, rfl⟩
def RemPost (o : Ord) (k : Int) (H : Hd) (t : BT) (w : World) (e : Ending) (w' : World) : Prop :=
  e = .returned (.tuple #[]) ∧ St rbL w' { H with size := H.size - if has o k t then 1 else 0 } [] (remove o k t) ∧ Only (allIds H [] t) w w'
theorem remove_walk (o : Ord) (ho : o.fine) (ob : Nat) (k : Int) (t : BT) (w : World) (H : Hd) (sT : St rbL w H [] t) (hok : ok t) (hcmp : H.cmp = cmpv ob) (hob : OrdAt w ob o) (hs0 : 0 ≤ H.size) (hs1 : H.size ≤ 1000000) :
    Calls Tryz.prog 44 #[.pointer (some ⟨H.tb, 0, none⟩), .iface 3 (.int .i64 k)] w (RemPost o k H t w) := by
  have lk := lookup_walk o ho ob k t w H sT hcmp hob
  have hp := find_plug o k [] t
  have hfh : ∃ m, Hole (find o k [] t).1 m ∧ BH (find o k [] t).2 m ∧ (col (find o k [] t).2 = 1 ∨ pcol (find o k [] t).1 = 1) := by
    obtain ⟨m, hb, hc⟩ := hok
    exact find_hole (o := o) (k := k) (c := []) (t := t) (n := m) trivial hb (.inl hc)
  rcases hf : find o k [] t with ⟨c, s⟩
  rw [hf] at lk hp hfh
  have sF : St rbL w H c s := sT.unplug hp
  have hmem : ∀ b, b ∈ allIds H c s → b ∈ allIds H [] t := fun b hb => (allIds_eq (c := c) (t := s) (c' := []) (t' := t) hp b).1 hb
  cases s with
  | nil =>
    have e1 : has o k t = false := by unfold has; rw [hf]
    have e2 : remove o k t = t := by unfold remove; rw [hf]; exact hp
    have f : ∀ n, RemPost o k H t w (.returned (.tuple #[])) (w.drewN n) := fun n => ⟨rfl, by rw [e1, e2]; simpa using sT.drewN n, (Only.refl _ w).drewN n⟩
    have F := Lib.hid f
    clear f
    simp only [BT.root, ptr, Option.map_none] at lk
    have LK := Lib.hid lk
    clear lk hp hfh sF hmem sT e1 e2 hf hok hob
    go_enter Tryz.func44, Tryz.ntmps44
    go_wp2_with fail
    refine LK.out.mono ?_
    rintro e w1 ⟨rfl, n, rfl⟩
    have F1 := Lib.hid (F.out n)
    clear LK F
    go_wp2_with fail
    go_end0
    exact F1.out
  | node i l k' v' b r =>
    obtain ⟨m, hh, hb, hc⟩ := hfh
    have e1 : has o k t = true := by unfold has; rw [hf]
    have e2 : remove o k t = remNode c (.node i l k' v' b r) := by unfold remove; rw [hf]
    simp only [root_node, ptr, Option.map_some] at lk
    have fin : ∀ {T : BT}, remNode c (.node i l k' v' b r) = T → Calls Tryz.prog 44 #[.pointer (some ⟨H.tb, 0, none⟩), .iface 3 (.int .i64 k)] w (Ret (CutPost (allIds H [] t) H T w)) → Calls Tryz.prog 44 #[.pointer (some ⟨H.tb, 0, none⟩), .iface 3 (.int .i64 k)] w (RemPost o k H t w) := fun hT hC => by
      subst hT
      refine hC.mono ?_
      rintro e w' ⟨rfl, s', o'⟩
      exact ⟨rfl, by rw [e1, e2]; exact s', o'⟩
    by_cases hlr : l = .nil ∨ r = .nil
    · refine fin (remNode_one hlr) ?_
      rcases cut_shape hh hb hc hlr with ⟨rfl, h1, ⟨rfl, rfl⟩ | ⟨x, xl, kx, vx, xr, rfl, rfl⟩ | ⟨x, xl, kx, vx, xr, rfl, rfl⟩⟩ | ⟨rfl, rfl, rfl, f, x0, rfl⟩
      · exact remove_one_nil_b sF h1 hmem hs0 hs1 lk
      · exact remove_one_L_b sF h1 hmem hs0 hs1 lk
      · exact remove_one_R_b sF h1 hmem hs0 hs1 lk
      · exact remove_one_nil_r sF hmem hs0 hs1 lk
    · simp only [not_or] at hlr
      obtain ⟨j, jl, jk, jv, jb, h1, _, _, _⟩ := maxp_spec (t := l) [] hlr.1
      refine fin (remNode_two hlr.1 hlr.2 h1) ?_
      have hb' : BH (.node i l jk jv b r) m := hb
      obtain ⟨m1, h2, h3, h4⟩ := hole_downL hh hb' hc
      obtain ⟨m2, h5, h6, h7⟩ := maxp_hole hlr.1 h2 h3 h4
      rw [h1] at h6 h7
      obtain ⟨il, hil⟩ : ∃ il, l.root = some il := by cases l with | nil => exact absurd rfl hlr.1 | node i2 _ _ _ _ _ => exact ⟨i2, rfl⟩
      obtain ⟨ir, hir⟩ : ∃ ir, r.root = some ir := by cases r with | nil => exact absurd rfl hlr.2 | node i2 _ _ _ _ _ => exact ⟨i2, rfl⟩
      rcases cut_shape h5 h6 h7 (.inr rfl) with ⟨rfl, h8, ⟨rfl, _⟩ | ⟨x, xl, kx, vx, xr, rfl, _⟩ | ⟨x, xl, kx, vx, xr, _, h9⟩⟩ | ⟨rfl, rfl, _, f, x0, h9⟩
      · exact remove_two_nil_b sF hil hir h1 rfl h8 hmem hs0 hs1 lk
      · exact remove_two_L_b sF hil hir h1 rfl h8 hmem hs0 hs1 lk
      · cases h9
      · rw [h9]
        exact remove_two_nil_r sF hil hir h1 h9 hmem hs0 hs1 lk
structure RbAt (o : Ord) (ob B : Nat) (w : World) (tb : Nat) (t : BT) : Prop where
  st : St rbL w ⟨tb, cmpv ob, t.count⟩ [] t
  ok : ok t
  asc : Asc o t.kvs
  fine : o.fine
  ord : OrdAt w ob o
  ne : ob ∉ tb :: t.ids
  lo : B ≤ ob ∧ ∀ b ∈ tb :: t.ids, B ≤ b
def RbHas (o : Ord) (B : Nat) (w : World) (tb : Nat) (l : KV) : Prop := ∃ ob t, RbAt o ob B w tb t ∧ t.kvs = l
section
variable {o : Ord} {ob B tb : Nat} {w w' : World} {t : BT}
theorem RbAt.same (h : RbAt o ob B w tb t) (e : ∀ b, b ∈ ob :: tb :: t.ids → w'.heap[b]? = w.heap[b]?) : RbAt o ob B w' tb t :=
  ⟨h.st.same (fun b hb => e b (by simpa [allIds, Ctx.ids] using Or.inr hb)), h.ok, h.asc, h.fine, Blk.same h.ord (e ob (by simp)), h.ne, h.lo⟩
theorem RbAt.lt (h : RbAt o ob B w tb t) : ∀ b ∈ ob :: tb :: t.ids, b < w.heap.size := fun b hb => by
  rcases List.mem_cons.1 hb with rfl | hb
  · exact h.ord.lt
  · exact h.st.lt b (by simpa [allIds, Ctx.ids] using hb)
theorem RbAt.below (h : RbAt o ob B w tb t) (k : Below w.heap.size w w') : RbAt o ob B w' tb t := h.same fun b hb => k.block b (h.lt b hb)
theorem RbAt.allIds_eq : allIds ⟨tb, cmpv ob, t.count⟩ [] t = tb :: t.ids := by simp [allIds, Ctx.ids]
theorem PutPost.lift {k v : Int} {e : Ending} (h : RbAt o ob B w tb t) (p : PutPost o k v ⟨tb, cmpv ob, t.count⟩ t w e w') :
    e = .returned (.tuple #[]) ∧ (∃ t', RbAt o ob B w' tb t' ∧ t'.kvs = ins o k v t.kvs) ∧ Below B w w' := by
  obtain ⟨rfl, st, on⟩ := p
  rw [RbAt.allIds_eq] at on
  have hob := h.ord.lt
  have hBl : ∀ b ∈ tb :: t.ids, B ≤ b := h.lo.2
  have hk := put_kvs (o := o) (n := w.heap.size) (k := k) (v := v) h.asc
  have hids : ∀ b ∈ tb :: (put o w.heap.size k v t).ids, b = w.heap.size ∨ b ∈ tb :: t.ids := fun b hb => by
    rcases List.mem_cons.1 hb with rfl | hb
    · exact .inr (by simp)
    · rcases put_mem hb with e | e
      · exact .inl e
      · exact .inr (by simp [e])
  refine ⟨rfl, ⟨_, ⟨?_, put_ok h.ok, by rw [hk]; exact h.asc.ins, h.fine, h.ord.only on h.ne, ?_, h.lo.1, ?_⟩, hk⟩, on.below hBl (by have := h.lo.1; omega)⟩
  · have e : ((t.count : Int) + if has o k t then 0 else 1) = (put o w.heap.size k v t).count := by
      rw [← BT.kvs_length (put o w.heap.size k v t), hk, ins_length h.asc, has_look h.asc, BT.kvs_length]
      split <;> simp
    simpa only [e] using st
  · intro hm
    rcases hids _ hm with e | e
    · omega
    · exact h.ne e
  · intro b hb
    rcases hids _ hb with e | e
    · have := h.lo.1; omega
    · exact hBl b e
theorem RemPost.lift {k : Int} {e : Ending} (h : RbAt o ob B w tb t) (p : RemPost o k ⟨tb, cmpv ob, t.count⟩ t w e w') :
    e = .returned (.tuple #[]) ∧ (∃ t', RbAt o ob B w' tb t' ∧ t'.kvs = del o k t.kvs) ∧ Below B w w' := by
  obtain ⟨rfl, st, on⟩ := p
  rw [RbAt.allIds_eq] at on
  have hob := h.ord.lt
  have hBl : ∀ b ∈ tb :: t.ids, B ≤ b := h.lo.2
  have hk := remove_kvs (o := o) (k := k) h.asc
  have hids : ∀ b ∈ tb :: (remove o k t).ids, b ∈ tb :: t.ids := fun b hb => by
    rcases List.mem_cons.1 hb with rfl | hb
    · simp
    · simp [remove_mem hb]
  refine ⟨rfl, ⟨_, ⟨?_, remove_ok h.ok, by rw [hk]; exact h.asc.del, h.fine, h.ord.only on h.ne, fun hm => h.ne (hids _ hm), h.lo.1, fun b hb => hBl b (hids _ hb)⟩, hk⟩, on.below hBl (by have := h.lo.1; omega)⟩
  have e : ((t.count : Int) - if has o k t then 1 else 0) = (remove o k t).count := by
    rw [← BT.kvs_length (remove o k t), hk, del_length, has_look h.asc, BT.kvs_length]
    split
    · rename_i hs
      have : 0 < t.count := by
        rw [← BT.kvs_length]
        cases hl : t.kvs with
        | nil => rw [hl] at hs; simp [look] at hs
        | cons x l => simp
      omega
    · simp
  simpa only [e] using st
theorem rbPut_walk (h : RbAt o ob B w tb t) (k v : Int) (hl : t.count ≤ 100000) :
    Calls Tryz.prog 43 #[.pointer (some ⟨tb, 0, none⟩), .iface 3 (.int .i64 k), .iface 3 (.int .i64 v)] w fun e w' =>
      e = .returned (.tuple #[]) ∧ (∃ t', RbAt o ob B w' tb t' ∧ t'.kvs = ins o k v t.kvs) ∧ Below B w w' :=
  (put_walk o h.fine ob k v t w ⟨tb, cmpv ob, t.count⟩ h.st h.ok rfl h.ord (by simp) (by simp; omega)).mono fun _ _ hp => PutPost.lift h hp
theorem rbRemove_walk (h : RbAt o ob B w tb t) (k : Int) (hl : t.count ≤ 100000) :
    Calls Tryz.prog 44 #[.pointer (some ⟨tb, 0, none⟩), .iface 3 (.int .i64 k)] w fun e w' =>
      e = .returned (.tuple #[]) ∧ (∃ t', RbAt o ob B w' tb t' ∧ t'.kvs = del o k t.kvs) ∧ Below B w w' :=
  (remove_walk o h.fine ob k t w ⟨tb, cmpv ob, t.count⟩ h.st h.ok rfl h.ord (by simp) (by simp; omega)).mono fun _ _ hp => RemPost.lift h hp
theorem rbClear_walk (h : RbAt o ob B w tb t) :
    Calls Tryz.prog 40 #[.pointer (some ⟨tb, 0, none⟩)] w fun e w' =>
      e = .returned (.tuple #[]) ∧ (∃ t', RbAt o ob B w' tb t' ∧ t'.kvs = []) ∧ Below B w w' := by
  obtain ⟨hh2, _, hhf⟩ := h.st.hc.header
  obtain ⟨hsl, hslf⟩ := h.st.hc.slot_cell
  have hb : Blk w tb rbL.tt (rbL.head ⟨tb, cmpv ob, t.count⟩ t.root) := h.st.hc
  have hb2 := (hb.set_ 0 (ptr none)).set_ 1 (.int .i64 0)
  have fin : (∃ t', RbAt o ob B ((w.setCell ⟨tb, 0, none⟩ (.pointer none)).setCell ⟨tb, 1, none⟩ (.int .i64 0)) tb t' ∧ t'.kvs = []) ∧ Below B w ((w.setCell ⟨tb, 0, none⟩ (.pointer none)).setCell ⟨tb, 1, none⟩ (.int .i64 0)) := by
    have hBt : B ≤ tb := h.lo.2 tb (by simp)
    have hot : ob ≠ tb := fun e => h.ne (by simp [e])
    refine ⟨⟨.nil, ⟨⟨hb2, trivial, by simp [allIds, Ctx.ids, BT.ids]⟩, ⟨0, rfl, rfl⟩, Asc.nil o, h.fine, Blk.far (Blk.far h.ord hot _) hot _, by simpa [BT.ids] using hot, h.lo.1, by simpa [BT.ids] using hBt⟩, rfl⟩, ?_⟩
    exact ((Below.refl B w).setCell (p := ⟨tb, 0, none⟩) hBt _).setCell (p := ⟨tb, 1, none⟩) hBt _
  simp only [slot, ptr, rb_os] at hh2 hsl hslf
  have Fin := Lib.hid fin
  clear fin hb hb2 h
  go_enter Tryz.func40, Tryz.ntmps40
  go_wp2_with fail
  go_end0
  exact ⟨rfl, Fin.out⟩
theorem rbSize_walk (h : RbAt o ob B w tb t) : Calls Tryz.prog 45 #[.pointer (some ⟨tb, 0, none⟩)] w fun e w' => e = .returned (.int .i64 t.count) ∧ w = w' := by
  obtain ⟨hh2, _, _⟩ := h.st.hc.header
  simp only [rb_os] at hh2
  clear h
  go_enter Tryz.func45, Tryz.ntmps45
  go_wp2_with fail
  go_ret
  exact ⟨rfl, rfl⟩
theorem rbEmpty_walk (h : RbAt o ob B w tb t) : Calls Tryz.prog 41 #[.pointer (some ⟨tb, 0, none⟩)] w fun e w' => e = .returned (.bool (((t.count : Nat) : Int) == 0)) ∧ w = w' := by
  obtain ⟨hh2, _, _⟩ := h.st.hc.header
  simp only [rb_os] at hh2
  clear h
  generalize (t.count : Int) = n at *
  go_enter Tryz.func41, Tryz.ntmps41
  go_wp2_with fail
  go_ret
  exact ⟨rfl, rfl⟩
theorem RbHas.below {l : KV} (h : RbHas o B w tb l) (k : Below w.heap.size w w') : RbHas o B w' tb l := by
  obtain ⟨ob, t, ht, e⟩ := h
  exact ⟨ob, t, ht.below k, e⟩
theorem RbHas.alloc {l : KV} (h : RbHas o B w tb l) (x : Obj) : RbHas o B (w.alloc x) tb l := h.below ((Below.refl _ _).alloc (Nat.le_refl _) x)
theorem RbHas.size {l : KV} (h : RbHas o B w tb l) : B ≤ w.heap.size := by
  obtain ⟨ob, t, ht, _⟩ := h
  have := ht.ord.lt; have := ht.lo.1; omega
theorem RbHas.asc {l : KV} (h : RbHas o B w tb l) : Asc o l := by
  obtain ⟨ob, t, ht, e⟩ := h
  exact e ▸ ht.asc
theorem rbPut_has {l : KV} (h : RbHas o B w tb l) (k v : Int) (hl : l.length ≤ 100000) :
    Calls Tryz.prog 43 #[.pointer (some ⟨tb, 0, none⟩), .iface 3 (.int .i64 k), .iface 3 (.int .i64 v)] w fun e w' =>
      e = .returned (.tuple #[]) ∧ RbHas o B w' tb (ins o k v l) ∧ Below B w w' := by
  obtain ⟨ob, t, ht, rfl⟩ := h
  refine (rbPut_walk ht k v (by rw [← BT.kvs_length]; exact hl)).mono ?_
  rintro e w' ⟨h1, ⟨t', h2, h3⟩, h4⟩
  exact ⟨h1, ⟨ob, t', h2, h3⟩, h4⟩
theorem rbRemove_has {l : KV} (h : RbHas o B w tb l) (k : Int) (hl : l.length ≤ 100000) :
    Calls Tryz.prog 44 #[.pointer (some ⟨tb, 0, none⟩), .iface 3 (.int .i64 k)] w fun e w' =>
      e = .returned (.tuple #[]) ∧ RbHas o B w' tb (del o k l) ∧ Below B w w' := by
  obtain ⟨ob, t, ht, rfl⟩ := h
  refine (rbRemove_walk ht k (by rw [← BT.kvs_length]; exact hl)).mono ?_
  rintro e w' ⟨h1, ⟨t', h2, h3⟩, h4⟩
  exact ⟨h1, ⟨ob, t', h2, h3⟩, h4⟩
theorem rbClear_has {l : KV} (h : RbHas o B w tb l) :
    Calls Tryz.prog 40 #[.pointer (some ⟨tb, 0, none⟩)] w fun e w' =>
      e = .returned (.tuple #[]) ∧ RbHas o B w' tb [] ∧ Below B w w' := by
  obtain ⟨ob, t, ht, rfl⟩ := h
  refine (rbClear_walk ht).mono ?_
  rintro e w' ⟨h1, ⟨t', h2, h3⟩, h4⟩
  exact ⟨h1, ⟨ob, t', h2, h3⟩, h4⟩
end
end Go.Proofs.YtbdcepkahdecjaaGreat.Rb

namespace Go.Proofs.YtbdcepkahdecjaaGreat.Rb
open Go.RowKit Go.Proofs.YtbdcepkahdecjaaGreat
def loP (p : Option Nat) : BT → Option Nat
  | .nil => p
  | .node i l k v b r => (BT.node i l k v b r).lo
theorem loP_none (t : BT) : loP none t = t.lo := by cases t <;> rfl
theorem loP_step {p : Option Nat} {i : Nat} {l r : BT} {k v b : Int} : loP p (.node i l k v b r) = loP (some i) l := by
  cases l with
  | nil => rfl
  | node i' l' k' v' b' r' => simp only [loP]; rw [BT.lo_node (by intro h; cases h)]
theorem rbLeft_walk (w : World) (H : Hd) (t : BT) (s : St rbL w H [] t) :
    Calls Tryz.prog 58 #[.pointer (some ⟨H.tb, 0, none⟩)] w fun e w' => e = .returned (ptr t.lo) ∧ w' = w := by
  obtain ⟨hsl, _⟩ := s.hc.slot_cell
  simp only [slot, ptr] at hsl
  have hS := Lib.hid s
  clear s
  go_enter Tryz.func58, Tryz.ntmps58
  go_wp2_with fail
  go_loopg [3, 4] (t.count + 1) (fun g par cur wr => wr = w ∧ ∃ (c : Ctx) (s : BT) (p : Option Nat), cur = ptr s.root ∧ par = ptr p ∧ St rbL w H c s ∧ loP none t = loP p s ∧ s.count < g)
  case atStart => exact ⟨rfl, [], t, none, rfl, rfl, hS.out, rfl, by omega⟩
  case round =>
    clear hsl hS
    obtain ⟨hw, c, s, p, hcur, hpar, hst, he, hg⟩ := hrel
    subst hw
    have HE := Lib.hid he
    have HS := Lib.hid hst
    clear he
    cases s with
    | nil =>
      simp only [BT.root, ptr, Option.map_none] at hcur hpar
      subst hcur
      clear hst
      have HP := Lib.hid hpar
      clear hpar
      go_wp2_with fail
      go_ret
      exact ⟨by rw [HP.out, ← loP_none, HE.out]; rfl, rfl⟩
    | node i l k v b r =>
      obtain ⟨_, _, hl3, hr4⟩ := hst.ht.1.cells_
      simp only [root_node, ptr, Option.map_some] at hcur hl3 hr4
      subst hcur
      have HN := Lib.hid hst.downL
      clear hst hpar
      go_wp2_with fail
      go_roundg (l.count + 1)
      case measure => simp only [BT.count] at hg; omega
      case rel => exact ⟨rfl, _, l, some i, rfl, rfl, HN.out, by rw [HE.out, loP_step], by omega⟩
end Go.Proofs.YtbdcepkahdecjaaGreat.Rb

namespace Go.Proofs.YtbdcepkahdecjaaGreat.Rb
open Go.RowKit Go.Proofs.YtbdcepkahdecjaaGreat
@[go_sem] theorem rb_method_Put (n : Nat) (a : Addr) (w : World) : (method (n + 1) 35 (.pointer (some a)) "Put").run Tryz.prog w = .ok (43, .pointer (some a)) w := by kernel_rfl
@[go_sem] theorem rb_method_Remove (n : Nat) (a : Addr) (w : World) : (method (n + 1) 35 (.pointer (some a)) "Remove").run Tryz.prog w = .ok (44, .pointer (some a)) w := by kernel_rfl
@[go_sem] theorem rb_method_Clear (n : Nat) (a : Addr) (w : World) : (method (n + 1) 35 (.pointer (some a)) "Clear").run Tryz.prog w = .ok (40, .pointer (some a)) w := by kernel_rfl
set_option maxRecDepth 100000 in
theorem rbDone_walk (o : Ord) (B tb n cap : Nat) (A : Option Addr) (acts : List Do) (w : World) (hn : acts.length = n) (hn1 : n ≤ 1000) (ha : ActsAt w B A acts) (l0 : KV) (hl0 : l0.length ≤ 1000) (h0 : RbHas o B w tb l0) :
    Calls Tryz.prog 18 #[.iface 35 (.pointer (some ⟨tb, 0, none⟩)), .slice A n cap] w fun e w' =>
      e = .returned (.tuple #[]) ∧ RbHas o B w' tb (acts.foldl (step o) l0) ∧ Below B w w' := by
  go_enter Tryz.func18, Tryz.ntmps18
  go_wp2_with fail
  go_loopw [8] (fun i wr => ∃ k : Nat, k ≤ n ∧ i = .int .i64 k ∧ RbHas o B wr tb ((acts.take k).foldl (step o) l0) ∧ Below B w wr) (fun i _ => n - (intOf i).toNat)
  case atStart => exact ⟨0, Nat.zero_le _, rfl, h0, Below.refl _ _⟩
  case round =>
    obtain ⟨k, hk, rfl, hh, hb⟩ := hrel
    by_cases hlt : k < n
    · obtain ⟨a, d, rfl, hab, hd, c0, c1, c2⟩ := ActsAt.at_ (ha.below hb) (i := k) (by omega)
      have hsz := hh.size
      have hlen := foldl_take_length o l0 h0.asc acts k
      have fin := fun (w2 : World) (h2 : RbHas o B w2 tb (step o ((acts.take k).foldl (step o) l0) d)) (b2 : Below B (wr.alloc (.cells #[.int .i64 d.op, .int .i64 d.key, .int .i64 d.val] 43)) w2) =>
        show RbHas o B w2 tb ((acts.take (k + 1)).foldl (step o) l0) ∧ Below B w w2 from
          ⟨by rw [foldl_take_succ o l0 acts k d hd]; exact h2, (hb.alloc hsz _).trans b2⟩
      generalize hL : (acts.take k).foldl (step o) l0 = L at *
      have Hh := Lib.hid (hh.alloc (.cells #[.int .i64 d.op, .int .i64 d.key, .int .i64 d.val] 43))
      have Hb := Lib.hid hb
      have Ha := Lib.hid ha
      have H0 := Lib.hid h0
      have HL := Lib.hid hL
      have Fin := Lib.hid fin
      have Hlen := Lib.hid hlen
      clear hh hb ha h0 hd hL fin hsz hlen
      by_cases h1 : d.op = 1
      · have e1 := Lib.hid (show step o L d = ins o d.key d.val L by unfold step; rw [if_pos h1])
        rw [h1] at c0 Hh Fin
        clear h1
        go_wp2_with fail
        refine (rbPut_has Hh.out _ _ (by have := Hlen.out; omega)).mono ?_
        rintro e w2 ⟨rfl, h2, b2⟩
        rw [← e1.out] at h2
        have F := Lib.hid (Fin.out _ h2 b2)
        clear h2 b2
        go_wp2_with fail
        go_roundw
        case rel => exact ⟨k + 1, by omega, by go_num, F.out.1, F.out.2⟩
        case measure => simp [intOf]; omega
      · by_cases h2 : d.op = 2
        · have e1 := Lib.hid (show step o L d = del o d.key L by unfold step; rw [if_neg h1, if_pos h2])
          rw [h2] at c0 Hh Fin
          clear h1 h2
          go_wp2_with fail
          refine (rbRemove_has Hh.out _ (by have := Hlen.out; omega)).mono ?_
          rintro e w2 ⟨rfl, h2, b2⟩
          rw [← e1.out] at h2
          have F := Lib.hid (Fin.out _ h2 b2)
          clear h2 b2
          go_wp2_with fail
          go_roundw
          case rel => exact ⟨k + 1, by omega, by go_num, F.out.1, F.out.2⟩
          case measure => simp [intOf]; omega
        · by_cases h3 : d.op = 3
          · have e1 := Lib.hid (show step o L d = [] by unfold step; rw [if_neg h1, if_neg h2, if_pos h3])
            rw [h3] at c0 Hh Fin
            clear h1 h2 h3
            go_wp2_with fail
            refine (rbClear_has Hh.out).mono ?_
            rintro e w2 ⟨rfl, h2, b2⟩
            rw [← e1.out] at h2
            have F := Lib.hid (Fin.out _ h2 b2)
            clear h2 b2
            go_wp2_with fail
            go_roundw
            case rel => exact ⟨k + 1, by omega, by go_num, F.out.1, F.out.2⟩
            case measure => simp [intOf]; omega
          · have e1 : step o L d = L := by unfold step; rw [if_neg h1, if_neg h2, if_neg h3]
            have h2' := Hh.out
            rw [← e1] at h2'
            have F := Lib.hid (Fin.out _ h2' (Below.refl _ _))
            have g1 : (d.op == 1) = false := by simpa using h1
            have g2 : (d.op == 2) = false := by simpa using h2
            have g3 : (d.op == 3) = false := by simpa using h3
            clear e1 h2' h1 h2 h3
            go_wp2_with fail
            go_roundw
            case rel => exact ⟨k + 1, by omega, by go_num, F.out.1, F.out.2⟩
            case measure => simp [intOf]; omega
    · have hkn : k = n := by omega
      have F : RbHas o B wr tb (acts.foldl (step o) l0) := by rw [← List.take_of_length_le (l := acts) (i := k) (by omega)]; exact hh
      have HF := Lib.hid F
      have Hb := Lib.hid hb
      clear hh hb ha h0 F hkn
      go_wp2_with fail
      go_end0
      exact ⟨rfl, HF.out, Hb.out⟩
theorem rbNew_walk (ob : Nat) (w : World) : Calls Tryz.prog 16 #[cmpv ob] w fun e w' =>
    e = .returned (.pointer (some ⟨w.heap.size, 0, none⟩)) ∧ w.alloc (.cells (rbL.head ⟨w.heap.size, cmpv ob, 0⟩ none) 59) = w' := by
  go_enter Tryz.func16, Tryz.ntmps16
  go_wp2_with fail
  go_ret
  exact ⟨rfl, rfl⟩
theorem rb_walk (o : Ord) (ho : o.fine) (n cap : Nat) (A : Option Addr) (acts : List Do) (w : World) (hn : acts.length = n) (hn1 : n ≤ 1000) (ha : ActsAt w w.heap.size A acts) :
    Calls Tryz.prog 11 #[.agg #[.int .i64 o.kind, .int .i64 o.m], .slice A n cap] w fun e w' =>
      ∃ tb, e = .returned (.pointer (some ⟨tb, 0, none⟩)) ∧ RbHas o w.heap.size w' tb (run o acts) ∧ Below w.heap.size w w' := by
  have Ha := Lib.hid ha
  clear ha
  go_enter Tryz.func11, Tryz.ntmps11
  go_wp2_with fail
  refine (by_walk o _).mono ?_
  rintro e w1 ⟨rfl, rfl⟩
  go_wp2_with fail
  refine (rbNew_walk _ _).mono ?_
  rintro e w1 ⟨rfl, rfl⟩
  have h0 : RbHas o w.heap.size (((w.alloc (.cells #[.int .i64 o.kind, .int .i64 o.m] 23)).alloc (.cells #[.int .i64 o.kind, .int .i64 o.m] 23)).alloc (.cells (rbL.head ⟨w.heap.size + 1 + 1, cmpv (w.heap.size + 1), 0⟩ none) 59)) (w.heap.size + 1 + 1) [] := by
    refine ⟨w.heap.size + 1, .nil, ⟨⟨?_, trivial, by simp [allIds, Ctx.ids, BT.ids]⟩, ⟨0, rfl, rfl⟩, Asc.nil o, ho, ?_, by simp [BT.ids], by omega, by simp [BT.ids]; omega⟩, rfl⟩
    · exact Blk.new' (by simp) _ _
    · exact Blk.alloc (Blk.new' (by simp) _ _) _
  have b0 : Below w.heap.size w (((w.alloc (.cells #[.int .i64 o.kind, .int .i64 o.m] 23)).alloc (.cells #[.int .i64 o.kind, .int .i64 o.m] 23)).alloc (.cells (rbL.head ⟨w.heap.size + 1 + 1, cmpv (w.heap.size + 1), 0⟩ none) 59)) :=
    (((Below.refl _ _).alloc (Nat.le_refl _) _).alloc (by simp) _).alloc (by simp; omega) _
  have H0 := Lib.hid h0
  have B0 := Lib.hid b0
  clear h0 b0
  go_wp2_with fail
  refine (rbDone_walk o w.heap.size _ n cap A acts _ hn hn1 (Ha.out.below B0.out) [] (by simp) H0.out).mono ?_
  rintro e w2 ⟨rfl, h2, b2⟩
  have H2 := Lib.hid h2
  have B2 := Lib.hid (B0.out.trans b2)
  clear h2 b2
  go_wp2_with fail
  go_ret
  exact ⟨_, rfl, H2.out, B2.out⟩
end Go.Proofs.YtbdcepkahdecjaaGreat.Rb
