/-
  The AVL tree: removeMin, in memory, is the cutting off of the least node; its key and value go to the node above.
-/
import Derived.Test.YtmhkknobgcdkkaaAvlPut
namespace Go.Proofs.Ytmhkknobgcdkkaa
open Go.RowKit

theorem IsC.frame_key {w : World} {H : Hd} {c1 c2 : Ctx} {q : Nat} {lq : BT} {kq vq bq : Int} {h : Option Nat} (hc : IsC avlL w H (c1 ++ .rf q lq kq vq bq :: c2) h)
    (hn : (H.tb :: Ctx.ids (c1 ++ .rf q lq kq vq bq :: c2)).Nodup) (x : Int) :
    IsC avlL (w.setCell ⟨q, 0, none⟩ (.iface 3 (.int .i64 x))) H (c1 ++ .rf q lq x vq bq :: c2) h := by
  induction c1 generalizing h with
  | nil =>
    obtain ⟨h1, h2, h3⟩ := hc
    simp only [List.nil_append, Ctx.ids, Fr.ids, List.nodup_cons, List.mem_append, List.mem_cons, List.cons_append, List.nodup_append, not_or] at hn
    exact ⟨Nd.setK (L := avlL) h1 x, h2.far hn.2.1.1 _, h3.far hn.2.1.2 (fun e => hn.1.1 e.symm) _⟩
  | cons f c1 ih =>
    have hn' := hn
    cases f with
    | lf i k v cc r =>
      obtain ⟨h1, h2, h3⟩ := hc
      have hq : q ∈ Ctx.ids (c1 ++ .rf q lq kq vq bq :: c2) := by
        clear ih h3 hn hn' h1
        induction c1 with
        | nil => simp [Ctx.ids, Fr.ids]
        | cons g c1 ih => simp [Ctx.ids, ih]
      simp only [List.cons_append, Ctx.ids, Fr.ids, List.nodup_cons, List.mem_append, List.mem_cons, List.nodup_append, not_or] at hn
      have hp : Ctx.par (c1 ++ .rf q lq x vq bq :: c2) = Ctx.par (c1 ++ .rf q lq kq vq bq :: c2) := by cases c1 <;> rfl
      refine ⟨?_, h2.far (fun hm => hn.2.2.2.2 _ hm _ hq rfl) _, ih h3 (List.nodup_cons.2 ⟨hn.1.2.2, hn.2.2.2.1⟩)⟩
      show Nd avlL _ i k v cc (Ctx.par (c1 ++ .rf q lq x vq bq :: c2)) _ _
      rw [hp]
      exact h1.far (fun e => hn.2.1.2 (by rw [e]; exact hq)) _
    | rf i l k v cc =>
      obtain ⟨h1, h2, h3⟩ := hc
      have hq : q ∈ Ctx.ids (c1 ++ .rf q lq kq vq bq :: c2) := by
        clear ih h3 hn hn' h1
        induction c1 with
        | nil => simp [Ctx.ids, Fr.ids]
        | cons g c1 ih => simp [Ctx.ids, ih]
      simp only [List.cons_append, Ctx.ids, Fr.ids, List.nodup_cons, List.mem_append, List.mem_cons, List.nodup_append, not_or] at hn
      have hp : Ctx.par (c1 ++ .rf q lq x vq bq :: c2) = Ctx.par (c1 ++ .rf q lq kq vq bq :: c2) := by cases c1 <;> rfl
      refine ⟨?_, h2.far (fun hm => hn.2.2.2.2 _ hm _ hq rfl) _, ih h3 (List.nodup_cons.2 ⟨hn.1.2.2, hn.2.2.2.1⟩)⟩
      show Nd avlL _ i k v cc (Ctx.par (c1 ++ .rf q lq x vq bq :: c2)) _ _
      rw [hp]
      exact h1.far (fun e => hn.2.1.2 (by rw [e]; exact hq)) _

theorem IsC.frame_val {w : World} {H : Hd} {c1 c2 : Ctx} {q : Nat} {lq : BT} {kq vq bq : Int} {h : Option Nat} (hc : IsC avlL w H (c1 ++ .rf q lq kq vq bq :: c2) h)
    (hn : (H.tb :: Ctx.ids (c1 ++ .rf q lq kq vq bq :: c2)).Nodup) (x : Int) :
    IsC avlL (w.setCell ⟨q, 1, none⟩ (.iface 3 (.int .i64 x))) H (c1 ++ .rf q lq kq x bq :: c2) h := by
  induction c1 generalizing h with
  | nil =>
    obtain ⟨h1, h2, h3⟩ := hc
    simp only [List.nil_append, Ctx.ids, Fr.ids, List.nodup_cons, List.mem_append, List.mem_cons, List.cons_append, List.nodup_append, not_or] at hn
    exact ⟨Nd.setV (L := avlL) h1 x, h2.far hn.2.1.1 _, h3.far hn.2.1.2 (fun e => hn.1.1 e.symm) _⟩
  | cons f c1 ih =>
    have hn' := hn
    cases f with
    | lf i k v cc r =>
      obtain ⟨h1, h2, h3⟩ := hc
      have hq : q ∈ Ctx.ids (c1 ++ .rf q lq kq vq bq :: c2) := by
        clear ih h3 hn hn' h1
        induction c1 with
        | nil => simp [Ctx.ids, Fr.ids]
        | cons g c1 ih => simp [Ctx.ids, ih]
      simp only [List.cons_append, Ctx.ids, Fr.ids, List.nodup_cons, List.mem_append, List.mem_cons, List.nodup_append, not_or] at hn
      have hp : Ctx.par (c1 ++ .rf q lq kq x bq :: c2) = Ctx.par (c1 ++ .rf q lq kq vq bq :: c2) := by cases c1 <;> rfl
      refine ⟨?_, h2.far (fun hm => hn.2.2.2.2 _ hm _ hq rfl) _, ih h3 (List.nodup_cons.2 ⟨hn.1.2.2, hn.2.2.2.1⟩)⟩
      show Nd avlL _ i k v cc (Ctx.par (c1 ++ .rf q lq kq x bq :: c2)) _ _
      rw [hp]
      exact h1.far (fun e => hn.2.1.2 (by rw [e]; exact hq)) _
    | rf i l k v cc =>
      obtain ⟨h1, h2, h3⟩ := hc
      have hq : q ∈ Ctx.ids (c1 ++ .rf q lq kq vq bq :: c2) := by
        clear ih h3 hn hn' h1
        induction c1 with
        | nil => simp [Ctx.ids, Fr.ids]
        | cons g c1 ih => simp [Ctx.ids, ih]
      simp only [List.cons_append, Ctx.ids, Fr.ids, List.nodup_cons, List.mem_append, List.mem_cons, List.nodup_append, not_or] at hn
      have hp : Ctx.par (c1 ++ .rf q lq kq x bq :: c2) = Ctx.par (c1 ++ .rf q lq kq vq bq :: c2) := by cases c1 <;> rfl
      refine ⟨?_, h2.far (fun hm => hn.2.2.2.2 _ hm _ hq rfl) _, ih h3 (List.nodup_cons.2 ⟨hn.1.2.2, hn.2.2.2.1⟩)⟩
      show Nd avlL _ i k v cc (Ctx.par (c1 ++ .rf q lq kq x bq :: c2)) _ _
      rw [hp]
      exact h1.far (fun e => hn.2.1.2 (by rw [e]; exact hq)) _

theorem ids_frame (c1 c2 : Ctx) (q : Nat) (lq : BT) (kq vq bq x y : Int) : Ctx.ids (c1 ++ .rf q lq kq vq bq :: c2) = Ctx.ids (c1 ++ .rf q lq x y bq :: c2) := by
  induction c1 with
  | nil => rfl
  | cons f c1 ih => simp only [List.cons_append, Ctx.ids, ih]
theorem slot_frame (H : Hd) (c1 c2 : Ctx) (q : Nat) (lq : BT) (kq vq bq x y : Int) : slot H (c1 ++ .rf q lq kq vq bq :: c2) = slot H (c1 ++ .rf q lq x y bq :: c2) := by
  cases c1 with
  | nil => rfl
  | cons f c1 => cases f <;> rfl
theorem par_frame (c1 c2 : Ctx) (q : Nat) (lq : BT) (kq vq bq x y : Int) : Ctx.par (c1 ++ .rf q lq kq vq bq :: c2) = Ctx.par (c1 ++ .rf q lq x y bq :: c2) := by
  cases c1 <;> rfl
theorem mem_frame (c1 c2 : Ctx) (q : Nat) (lq : BT) (kq vq bq : Int) : q ∈ Ctx.ids (c1 ++ .rf q lq kq vq bq :: c2) := by
  induction c1 with
  | nil => simp [Ctx.ids, Fr.ids]
  | cons f c1 ih => simp [Ctx.ids, ih]
theorem frame_cell {w : World} {H : Hd} {c1 c2 : Ctx} {q : Nat} {lq : BT} {kq vq bq : Int} {h : Option Nat} (hc : IsC avlL w H (c1 ++ .rf q lq kq vq bq :: c2) h) :
    w.cell? ⟨q, 0, none⟩ = some (.iface 3 (.int .i64 kq)) ∧ w.cell? ⟨q, 1, none⟩ = some (.iface 3 (.int .i64 vq)) ∧ ∀ j, w.frozen? ⟨q, j, none⟩ = false := by
  induction c1 generalizing h with
  | nil => exact ⟨hc.1.cells_.1, hc.1.cells_.2.1, hc.1.frozen⟩
  | cons f c1 ih => cases f <;> exact ih hc.2.2

/-- The key and the value of a node above are written. -/
theorem St.frame {w : World} {H : Hd} {c1 c2 : Ctx} {q : Nat} {lq : BT} {kq vq bq : Int} {t : BT} (s : St avlL w H (c1 ++ .rf q lq kq vq bq :: c2) t) (x y : Int) :
    St avlL ((w.setCell ⟨q, 0, none⟩ (.iface 3 (.int .i64 x))).setCell ⟨q, 1, none⟩ (.iface 3 (.int .i64 y))) H (c1 ++ .rf q lq x y bq :: c2) t ∧
      Only (allIds H (c1 ++ .rf q lq kq vq bq :: c2) t) w ((w.setCell ⟨q, 0, none⟩ (.iface 3 (.int .i64 x))).setCell ⟨q, 1, none⟩ (.iface 3 (.int .i64 y))) := by
  have hq := mem_frame c1 c2 q lq kq vq bq
  have hqt : q ∉ t.ids := s.djc.2 _ hq
  have h1 := IsC.frame_key s.hc s.ndc x
  have hn1 : (H.tb :: Ctx.ids (c1 ++ .rf q lq x vq bq :: c2)).Nodup := by rw [← ids_frame c1 c2 q lq kq vq bq x vq]; exact s.ndc
  have h2 := IsC.frame_val h1 hn1 y
  refine ⟨⟨h2, ?_, ?_⟩, ?_⟩
  · rw [← par_frame c1 c2 q lq kq vq bq x y]
    exact (s.ht.far hqt _).far hqt _
  · have := s.nd
    unfold allIds at this ⊢
    rwa [← ids_frame c1 c2 q lq kq vq bq x y]
  · exact ((Only.refl _ _).setCell (.inl (by simp [allIds, hq])) _).setCell (.inl (by simp [allIds, hq])) _

/-- A node gives its place to its right child, or to its left child, or to none. -/
theorem St.lift {w : World} {H : Hd} {c : Ctx} {t : BT} {x : Nat} {xl xr : BT} {kx vx bx : Int} {i : Option Nat} (s : St avlL w H c t) (hx : IsT avlL w (.node x xl kx vx bx xr) i) (hsub : ∀ b ∈ BT.ids (.node x xl kx vx bx xr), b ∈ t.ids) (hnx : (BT.ids (.node x xl kx vx bx xr)).Nodup) :
    St avlL ((w.setCell ⟨x, 2, none⟩ (ptr c.par)).setCell (slot H c) (ptr (some x))) H c (.node x xl kx vx bx xr) ∧ Only (allIds H c t) w ((w.setCell ⟨x, 2, none⟩ (ptr c.par)).setCell (slot H c) (ptr (some x))) := by
  have hd := s.djc
  have hxt : x ∈ t.ids := hsub x (by simp [BT.ids])
  have hn' := hnx
  simp only [BT.ids, List.nodup_cons, List.mem_append, not_or] at hn'
  have h1 : IsT avlL (w.setCell ⟨x, 2, none⟩ (ptr c.par)) (.node x xl kx vx bx xr) c.par :=
    ⟨Nd.setP (L := avlL) hx.1 c.par, hx.2.1.far hn'.1.1 _, hx.2.2.far hn'.1.2 _⟩
  have h2 : IsC avlL (w.setCell ⟨x, 2, none⟩ (ptr c.par)) H c t.root := s.hc.far (fun hm => hd.2 _ hm hxt) (fun e => hd.1 (by rw [← e]; exact hxt)) _
  have hn : (allIds H c (.node x xl kx vx bx xr)).Nodup := by
    have hnd := s.nd
    unfold allIds at hnd ⊢
    rw [List.nodup_cons, List.nodup_append] at hnd ⊢
    rw [List.mem_append, not_or] at hnd ⊢
    exact ⟨⟨hnd.1.1, fun hm => hnd.1.2 (hsub _ hm)⟩, hnd.2.1, hnx, fun a ha b hb => hnd.2.2.2 a ha b (hsub b hb)⟩
  refine ⟨⟨h2.slot_set s.ndc _, h1.far (slot_not_mem hn) _, hn⟩, ?_⟩
  refine ((Only.refl _ _).setCell (.inl (by simp [allIds, hxt])) _).setCell (.inl ?_) _
  have := slot_block H c
  simp only [allIds, List.mem_cons, List.mem_append] at this ⊢
  rcases this with e | e
  · exact .inl e
  · exact .inr (.inl e)
theorem St.lift_nil {w : World} {H : Hd} {c : Ctx} {t : BT} (s : St avlL w H c t) :
    St avlL (w.setCell (slot H c) (ptr none)) H c .nil ∧ Only (allIds H c t) w (w.setCell (slot H c) (ptr none)) := by
  refine ⟨⟨s.hc.slot_set s.ndc _, trivial, ?_⟩, (Only.refl _ _).setCell (.inl ?_) _⟩
  · have hnd := s.ndc
    unfold allIds
    simpa [BT.ids] using hnd
  · have := slot_block H c
    simp only [allIds, List.mem_cons, List.mem_append] at this ⊢
    rcases this with e | e
    · exact .inl e
    · exact .inr (.inl e)

end Go.Proofs.Ytmhkknobgcdkkaa
