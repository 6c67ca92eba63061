/-
  The AVL tree: singlerot, doublerot in memory. (Printed by gen_avlrot2.py: both sides alike.)
-/
import Derived.Test.YtmhkknobgcdkkaaAvlRot
import Derived.RegionCalls
import Derived.Deep.RegionWith
namespace Go.Proofs.Ytmhkknobgcdkkaa
open Go.RowKit

theorem singleR_walk {w : World} {s r : Nat} {l rl rr : BT} {k v b k' v' b' : Int} {p : Option Nat} (h : IsT avlL w (.node s l k v b (.node r rl k' v' b' rr)) p)
    (hn : (BT.ids (.node s l k v b (.node r rl k' v' b' rr))).Nodup) :
    Calls Try.prog 80 #[.int .i8 1, .pointer (some ⟨s, 0, none⟩)] w fun e w' => e = .returned (.pointer (some ⟨r, 0, none⟩)) ∧ IsT avlL w' (.node r (.node s l k v 0 rl) k' v' 0 rr) p ∧
      Only (BT.ids (.node s l k v b (.node r rl k' v' b' rr))) w w' := by
  have hs5 := h.1.cellC
  have fs := h.1.frozen 5
  simp only [Lay.oc, Lay.cv, if_true] at hs5
  have H := Lib.hid h
  have Hn := Lib.hid hn
  clear h hn
  go_enter Try.func80, Try.ntmps80
  go_wp2_with fail
  refine (rotR_walk (IsT.setC H.out Hn.out 0) Hn.out).mono ?_
  rintro e w1 ⟨rfl, h1, o1⟩
  have hr5 := h1.1.cellC
  have fr := h1.1.frozen 5
  simp only [Lay.oc, Lay.cv, if_true] at hr5
  have hn1 : (BT.ids (.node r (.node s l k v 0 rl) k' v' b' rr)).Nodup := by
    refine List.Perm.nodup ?_ Hn.out
    simp [List.perm_iff_count, BT.ids, List.count_cons]
    omega
  have H1 := Lib.hid h1
  have O1 := Lib.hid o1
  have Hn1 := Lib.hid hn1
  clear h1 o1 hn1
  go_wp2_with fail
  go_ret
  refine ⟨rfl, IsT.setC H1.out Hn1.out 0, ?_⟩
  exact ((Only.refl _ _).setCell (.inl (by simp [BT.ids])) _).trans (O1.out.setCell (.inl (by simp [BT.ids])) _)

theorem singleL_walk {w : World} {s r : Nat} {l rl rr : BT} {k v b k' v' b' : Int} {p : Option Nat} (h : IsT avlL w (.node s (.node r rr k' v' b' rl) k v b l) p)
    (hn : (BT.ids (.node s (.node r rr k' v' b' rl) k v b l)).Nodup) :
    Calls Try.prog 80 #[.int .i8 (-1), .pointer (some ⟨s, 0, none⟩)] w fun e w' => e = .returned (.pointer (some ⟨r, 0, none⟩)) ∧ IsT avlL w' (.node r rr k' v' 0 (.node s rl k v 0 l)) p ∧
      Only (BT.ids (.node s (.node r rr k' v' b' rl) k v b l)) w w' := by
  have hs5 := h.1.cellC
  have fs := h.1.frozen 5
  simp only [Lay.oc, Lay.cv, if_true] at hs5
  have H := Lib.hid h
  have Hn := Lib.hid hn
  clear h hn
  go_enter Try.func80, Try.ntmps80
  go_wp2_with fail
  refine (rotL_walk (IsT.setC H.out Hn.out 0) Hn.out).mono ?_
  rintro e w1 ⟨rfl, h1, o1⟩
  have hr5 := h1.1.cellC
  have fr := h1.1.frozen 5
  simp only [Lay.oc, Lay.cv, if_true] at hr5
  have hn1 : (BT.ids (.node r rr k' v' b' (.node s rl k v 0 l))).Nodup := by
    refine List.Perm.nodup ?_ Hn.out
    simp [List.perm_iff_count, BT.ids, List.count_cons]
    omega
  have H1 := Lib.hid h1
  have O1 := Lib.hid o1
  have Hn1 := Lib.hid hn1
  clear h1 o1 hn1
  go_wp2_with fail
  go_ret
  refine ⟨rfl, IsT.setC H1.out Hn1.out 0, ?_⟩
  exact ((Only.refl _ _).setCell (.inl (by simp [BT.ids])) _).trans (O1.out.setCell (.inl (by simp [BT.ids])) _)

set_option maxHeartbeats 800000 in
theorem doubleR_walk {w : World} {s r q : Nat} {l ql qr rr : BT} {k v b kr vr br kq vq bq : Int} {p : Option Nat} (h : IsT avlL w (.node s l k v b (.node r (.node q ql kq vq bq qr) kr vr br rr)) p)
    (hn : (BT.ids (.node s l k v b (.node r (.node q ql kq vq bq qr) kr vr br rr))).Nodup) :
    Calls Try.prog 81 #[.int .i8 1, .pointer (some ⟨s, 0, none⟩)] w fun e w' => e = .returned (.pointer (some ⟨q, 0, none⟩)) ∧ IsT avlL w' (.node q (.node s l k v (if bq = 1 then -1 else 0) ql) kq vq 0 (.node r qr kr vr (if bq = -1 then 1 else 0) rr)) p ∧
      Only (BT.ids (.node s l k v b (.node r (.node q ql kq vq bq qr) kr vr br rr))) w w' := by
  obtain ⟨hs, hl, hr⟩ := h
  have hn' := hn
  simp only [BT.ids, List.nodup_cons, List.mem_cons, List.mem_append, List.nodup_append, not_or] at hn'
  have hnr : (BT.ids (.node r (.node q ql kq vq bq qr) kr vr br rr)).Nodup := by simp only [BT.ids, List.nodup_cons, List.mem_cons, List.mem_append, List.nodup_append, not_or]; grind
  have hnl : ∀ x ∈ l.ids, x ∉ BT.ids (.node r (.node q ql kq vq bq qr) kr vr br rr) := by simp only [BT.ids, List.mem_cons, List.mem_append, not_or]; grind
  have hnl' : s ∉ l.ids := by grind
  have hns : s ∉ BT.ids (.node r (.node q ql kq vq bq qr) kr vr br rr) := by simp only [BT.ids, List.mem_cons, List.mem_append, not_or]; grind
  have hs4 := (Nd.cells_ hs).2.2.2
  have fs := Nd.frozen hs
  simp only [BT.root, ptr, Option.map_some] at hs4
  have Hs := Lib.hid hs
  have Hr := Lib.hid hr
  have Hl := Lib.hid hl
  have Hn := Lib.hid hn
  have Hnr := Lib.hid hnr
  have Hnl := Lib.hid hnl
  have Hns := Lib.hid hns
  have Hnl' := Lib.hid hnl'
  clear hs hr hl hn hn' hnr hnl hns hnl'
  go_enter Try.func81, Try.ntmps81
  go_wp2_with fail
  have hc1 : Unit → Calls Try.prog 82 #[.int .i8 (-1), .pointer (some ⟨r, 0, none⟩)] w.drew fun e w' => e = .returned (.pointer (some ⟨q, 0, none⟩)) ∧ IsT avlL w' (.node q ql kq vq bq (.node r qr kr vr br rr)) (some s) ∧ Only (BT.ids (.node r (.node q ql kq vq bq qr) kr vr br rr)) w.drew w' := fun _ => rotL_walk (IsT.drew Hr.out) Hnr.out
  have Hc1 := Lib.hid hc1
  clear hc1
  go_region_with (go_at_call 82; refine (Hc1.out ()).mono ?_; rintro e w1 ⟨rfl, h1, o1⟩; have hs4' : w1.cell? ⟨s, 4, none⟩ = some (.pointer (some ⟨r, 0, none⟩)) := (World.cell?_of_block (o1.block s (Nd.lt Hs.out) Hns.out)).trans hs4; have fs' : w1.frozen? ⟨s, 4, none⟩ = false := (World.frozen?_of_block (o1.block s (Nd.lt Hs.out) Hns.out)).trans (fs 4); have H1 := Lib.hid h1; have O1 := Lib.hid o1; clear h1 o1)
  go_wp2_with fail
  have hsw : Nd avlL w1 s k v b p l.root (some r) := Nd.same Hs.out (O1.out.block s (Nd.lt Hs.out) Hns.out)
  have ht1 : IsT avlL (w1.setCell ⟨s, 4, none⟩ (.pointer (some ⟨q, 0, none⟩))) (.node s l k v b (.node q ql kq vq bq (.node r qr kr vr br rr))) p :=
    ⟨Nd.setR hsw (some q), ((Hl.out.drew.only O1.out (fun b hb hm => Hnl.out b hb hm)).far Hnl'.out _), (H1.out.far (by have := Hns.out; simp only [BT.ids, List.mem_cons, List.mem_append, not_or] at this ⊢; grind) _)⟩
  have hn1 : (BT.ids (.node s l k v b (.node q ql kq vq bq (.node r qr kr vr br rr)))).Nodup := by
    refine List.Perm.nodup ?_ Hn.out
    simp [List.perm_iff_count, BT.ids, List.count_cons]
    omega
  have o2 : Only (BT.ids (.node s l k v b (.node r (.node q ql kq vq bq qr) kr vr br rr))) w (w1.setCell ⟨s, 4, none⟩ (.pointer (some ⟨q, 0, none⟩))) :=
    ((Only.refl _ _).drew.trans (O1.out.mono (by simp [BT.ids]; grind))).setCell (.inl (by simp [BT.ids])) _
  have Ht1 := Lib.hid ht1
  have Hn1 := Lib.hid hn1
  have O2 := Lib.hid o2
  clear hsw ht1 hn1 o2 hs4' fs' hs4 fs
  refine (rotR_walk Ht1.out Hn1.out).mono ?_
  rintro e w3 ⟨rfl, h3, o3⟩
  obtain ⟨h3q, ⟨h3s, h3l, h3ql⟩, ⟨h3r, h3qr, h3rr⟩⟩ := h3
  have hs5 := h3s.cellC
  have hr5 := h3r.cellC
  have hq5 := h3q.cellC
  have fs5 := h3s.frozen 5
  have fr5 := h3r.frozen 5
  have fq5 := h3q.frozen 5
  simp only [Lay.oc, Lay.cv, if_true] at hs5 hr5 hq5
  have hn' := Hn.out
  simp only [BT.ids, List.nodup_cons, List.mem_cons, List.mem_append, List.nodup_append, not_or] at hn'
  have sr : ¬ s = r := by grind
  have rs : ¬ r = s := by grind
  have sq : ¬ s = q := by grind
  have qs : ¬ q = s := by grind
  have rq : ¬ r = q := by grind
  have qr' : ¬ q = r := by grind
  have H3s := Lib.hid h3s
  have H3r := Lib.hid h3r
  have H3q := Lib.hid h3q
  have d1 : ∀ y ∈ [s, r, q], y ∉ l.ids ∧ y ∉ rr.ids ∧ y ∉ ql.ids ∧ y ∉ qr.ids := by simp only [List.mem_cons, List.not_mem_nil, or_false]; grind
  have D1 := Lib.hid d1
  have O3 := Lib.hid o3
  clear h3s h3r h3q hn' d1 o3
  have fin : ∀ (x y : Int), IsT avlL (((w3.setCell ⟨s, 5, none⟩ (.int .i8 x)).setCell ⟨r, 5, none⟩ (.int .i8 y)).setCell ⟨q, 5, none⟩ (.int .i8 0)) (.node q (.node s l k v x ql) kq vq 0 (.node r qr kr vr y rr)) p ∧
      Only (BT.ids (.node s l k v b (.node r (.node q ql kq vq bq qr) kr vr br rr))) w (((w3.setCell ⟨s, 5, none⟩ (.int .i8 x)).setCell ⟨r, 5, none⟩ (.int .i8 y)).setCell ⟨q, 5, none⟩ (.int .i8 0)) := by
    intro x y
    have hO : Only [s, r, q] w3 (((w3.setCell ⟨s, 5, none⟩ (.int .i8 x)).setCell ⟨r, 5, none⟩ (.int .i8 y)).setCell ⟨q, 5, none⟩ (.int .i8 0)) :=
      (((Only.refl _ _).setCell (.inl (by simp)) _).setCell (.inl (by simp)) _).setCell (.inl (by simp)) _
    have g1 := Nd.setC (L := avlL) (Nd.far (a := ⟨r, 5, none⟩) (Nd.far (a := ⟨s, 5, none⟩) H3q.out qs (.int .i8 x)) qr' (.int .i8 y)) 0
    have g2 := Nd.far (a := ⟨q, 5, none⟩) (Nd.far (a := ⟨r, 5, none⟩) (Nd.setC (L := avlL) H3s.out x) sr (.int .i8 y)) sq (.int .i8 0)
    have g3 := Nd.far (a := ⟨q, 5, none⟩) (Nd.setC (L := avlL) (Nd.far (a := ⟨s, 5, none⟩) H3r.out rs (.int .i8 x)) y) rq (.int .i8 0)
    have k1 := h3l.only hO (fun b hb hm => (D1.out b hm).1 hb)
    have k2 := h3rr.only hO (fun b hb hm => (D1.out b hm).2.1 hb)
    have k3 := h3ql.only hO (fun b hb hm => (D1.out b hm).2.2.1 hb)
    have k4 := h3qr.only hO (fun b hb hm => (D1.out b hm).2.2.2 hb)
    refine ⟨⟨g1, ⟨g2, k1, k3⟩, ⟨g3, k4, k2⟩⟩, ?_⟩
    refine O2.out.trans ((O3.out.mono ?_).trans (hO.mono ?_))
    · simp [BT.ids]; grind
    · simp [BT.ids]; grind
  have Fin := Lib.hid fin
  clear fin
  by_cases hb1 : bq = 1
  · subst hb1
    go_wp2_with fail
    go_ret
    exact ⟨rfl, Fin.out (-1) 0⟩
  · by_cases hb2 : bq = -1
    · subst hb2
      go_wp2_with fail
      go_ret
      exact ⟨rfl, Fin.out 0 1⟩
    · go_wp2_with fail
      go_ret
      exact ⟨rfl, Fin.out 0 0⟩

set_option maxHeartbeats 800000 in
theorem doubleL_walk {w : World} {s r q : Nat} {l ql qr rr : BT} {k v b kr vr br kq vq bq : Int} {p : Option Nat} (h : IsT avlL w (.node s (.node r rr kr vr br (.node q qr kq vq bq ql)) k v b l) p)
    (hn : (BT.ids (.node s (.node r rr kr vr br (.node q qr kq vq bq ql)) k v b l)).Nodup) :
    Calls Try.prog 81 #[.int .i8 (-1), .pointer (some ⟨s, 0, none⟩)] w fun e w' => e = .returned (.pointer (some ⟨q, 0, none⟩)) ∧ IsT avlL w' (.node q (.node r rr kr vr (if bq = 1 then -1 else 0) qr) kq vq 0 (.node s ql k v (if bq = -1 then 1 else 0) l)) p ∧
      Only (BT.ids (.node s (.node r rr kr vr br (.node q qr kq vq bq ql)) k v b l)) w w' := by
  obtain ⟨hs, hr, hl⟩ := h
  have hn' := hn
  simp only [BT.ids, List.nodup_cons, List.mem_cons, List.mem_append, List.nodup_append, not_or] at hn'
  have hnr : (BT.ids (.node r rr kr vr br (.node q qr kq vq bq ql))).Nodup := by simp only [BT.ids, List.nodup_cons, List.mem_cons, List.mem_append, List.nodup_append, not_or]; grind
  have hnl : ∀ x ∈ l.ids, x ∉ BT.ids (.node r rr kr vr br (.node q qr kq vq bq ql)) := by simp only [BT.ids, List.mem_cons, List.mem_append, not_or]; grind
  have hnl' : s ∉ l.ids := by grind
  have hns : s ∉ BT.ids (.node r rr kr vr br (.node q qr kq vq bq ql)) := by simp only [BT.ids, List.mem_cons, List.mem_append, not_or]; grind
  have hs3 := (Nd.cells_ hs).2.2.1
  have fs := Nd.frozen hs
  simp only [BT.root, ptr, Option.map_some] at hs3
  have Hs := Lib.hid hs
  have Hr := Lib.hid hr
  have Hl := Lib.hid hl
  have Hn := Lib.hid hn
  have Hnr := Lib.hid hnr
  have Hnl := Lib.hid hnl
  have Hns := Lib.hid hns
  have Hnl' := Lib.hid hnl'
  clear hs hr hl hn hn' hnr hnl hns hnl'
  go_enter Try.func81, Try.ntmps81
  go_wp2_with fail
  have hc1 : Unit → Calls Try.prog 82 #[.int .i8 1, .pointer (some ⟨r, 0, none⟩)] w.drew fun e w' => e = .returned (.pointer (some ⟨q, 0, none⟩)) ∧ IsT avlL w' (.node q (.node r rr kr vr br qr) kq vq bq ql) (some s) ∧ Only (BT.ids (.node r rr kr vr br (.node q qr kq vq bq ql))) w.drew w' := fun _ => rotR_walk (IsT.drew Hr.out) Hnr.out
  have Hc1 := Lib.hid hc1
  clear hc1
  go_region_with (go_at_call 82; refine (Hc1.out ()).mono ?_; rintro e w1 ⟨rfl, h1, o1⟩; have hs4' : w1.cell? ⟨s, 3, none⟩ = some (.pointer (some ⟨r, 0, none⟩)) := (World.cell?_of_block (o1.block s (Nd.lt Hs.out) Hns.out)).trans hs3; have fs' : w1.frozen? ⟨s, 3, none⟩ = false := (World.frozen?_of_block (o1.block s (Nd.lt Hs.out) Hns.out)).trans (fs 3); have H1 := Lib.hid h1; have O1 := Lib.hid o1; clear h1 o1)
  go_wp2_with fail
  have hsw : Nd avlL w1 s k v b p (some r) l.root := Nd.same Hs.out (O1.out.block s (Nd.lt Hs.out) Hns.out)
  have ht1 : IsT avlL (w1.setCell ⟨s, 3, none⟩ (.pointer (some ⟨q, 0, none⟩))) (.node s (.node q (.node r rr kr vr br qr) kq vq bq ql) k v b l) p :=
    ⟨Nd.setL hsw (some q), (H1.out.far (by have := Hns.out; simp only [BT.ids, List.mem_cons, List.mem_append, not_or] at this ⊢; grind) _), ((Hl.out.drew.only O1.out (fun b hb hm => Hnl.out b hb hm)).far Hnl'.out _)⟩
  have hn1 : (BT.ids (.node s (.node q (.node r rr kr vr br qr) kq vq bq ql) k v b l)).Nodup := by
    refine List.Perm.nodup ?_ Hn.out
    simp [List.perm_iff_count, BT.ids, List.count_cons]
    omega
  have o2 : Only (BT.ids (.node s (.node r rr kr vr br (.node q qr kq vq bq ql)) k v b l)) w (w1.setCell ⟨s, 3, none⟩ (.pointer (some ⟨q, 0, none⟩))) :=
    ((Only.refl _ _).drew.trans (O1.out.mono (by simp [BT.ids]; grind))).setCell (.inl (by simp [BT.ids])) _
  have Ht1 := Lib.hid ht1
  have Hn1 := Lib.hid hn1
  have O2 := Lib.hid o2
  clear hsw ht1 hn1 o2 hs4' fs' hs3 fs
  refine (rotL_walk Ht1.out Hn1.out).mono ?_
  rintro e w3 ⟨rfl, h3, o3⟩
  obtain ⟨h3q, ⟨h3r, h3rr, h3qr⟩, ⟨h3s, h3ql, h3l⟩⟩ := h3
  have hs5 := h3s.cellC
  have hr5 := h3r.cellC
  have hq5 := h3q.cellC
  have fs5 := h3s.frozen 5
  have fr5 := h3r.frozen 5
  have fq5 := h3q.frozen 5
  simp only [Lay.oc, Lay.cv, if_true] at hs5 hr5 hq5
  have hn' := Hn.out
  simp only [BT.ids, List.nodup_cons, List.mem_cons, List.mem_append, List.nodup_append, not_or] at hn'
  have sr : ¬ s = r := by grind
  have rs : ¬ r = s := by grind
  have sq : ¬ s = q := by grind
  have qs : ¬ q = s := by grind
  have rq : ¬ r = q := by grind
  have qr' : ¬ q = r := by grind
  have H3s := Lib.hid h3s
  have H3r := Lib.hid h3r
  have H3q := Lib.hid h3q
  have d1 : ∀ y ∈ [s, r, q], y ∉ l.ids ∧ y ∉ rr.ids ∧ y ∉ ql.ids ∧ y ∉ qr.ids := by simp only [List.mem_cons, List.not_mem_nil, or_false]; grind
  have D1 := Lib.hid d1
  have O3 := Lib.hid o3
  clear h3s h3r h3q hn' d1 o3
  have fin : ∀ (x y : Int), IsT avlL (((w3.setCell ⟨s, 5, none⟩ (.int .i8 x)).setCell ⟨r, 5, none⟩ (.int .i8 y)).setCell ⟨q, 5, none⟩ (.int .i8 0)) (.node q (.node r rr kr vr y qr) kq vq 0 (.node s ql k v x l)) p ∧
      Only (BT.ids (.node s (.node r rr kr vr br (.node q qr kq vq bq ql)) k v b l)) w (((w3.setCell ⟨s, 5, none⟩ (.int .i8 x)).setCell ⟨r, 5, none⟩ (.int .i8 y)).setCell ⟨q, 5, none⟩ (.int .i8 0)) := by
    intro x y
    have hO : Only [s, r, q] w3 (((w3.setCell ⟨s, 5, none⟩ (.int .i8 x)).setCell ⟨r, 5, none⟩ (.int .i8 y)).setCell ⟨q, 5, none⟩ (.int .i8 0)) :=
      (((Only.refl _ _).setCell (.inl (by simp)) _).setCell (.inl (by simp)) _).setCell (.inl (by simp)) _
    have g1 := Nd.setC (L := avlL) (Nd.far (a := ⟨r, 5, none⟩) (Nd.far (a := ⟨s, 5, none⟩) H3q.out qs (.int .i8 x)) qr' (.int .i8 y)) 0
    have g2 := Nd.far (a := ⟨q, 5, none⟩) (Nd.far (a := ⟨r, 5, none⟩) (Nd.setC (L := avlL) H3s.out x) sr (.int .i8 y)) sq (.int .i8 0)
    have g3 := Nd.far (a := ⟨q, 5, none⟩) (Nd.setC (L := avlL) (Nd.far (a := ⟨s, 5, none⟩) H3r.out rs (.int .i8 x)) y) rq (.int .i8 0)
    have k1 := h3l.only hO (fun b hb hm => (D1.out b hm).1 hb)
    have k2 := h3rr.only hO (fun b hb hm => (D1.out b hm).2.1 hb)
    have k3 := h3ql.only hO (fun b hb hm => (D1.out b hm).2.2.1 hb)
    have k4 := h3qr.only hO (fun b hb hm => (D1.out b hm).2.2.2 hb)
    refine ⟨⟨g1, ⟨g3, k2, k4⟩, ⟨g2, k3, k1⟩⟩, ?_⟩
    refine O2.out.trans ((O3.out.mono ?_).trans (hO.mono ?_))
    · simp [BT.ids]; grind
    · simp [BT.ids]; grind
  have Fin := Lib.hid fin
  clear fin
  by_cases hb1 : bq = 1
  · subst hb1
    go_wp2_with fail
    go_ret
    exact ⟨rfl, Fin.out 0 (-1)⟩
  · by_cases hb2 : bq = -1
    · subst hb2
      go_wp2_with fail
      go_ret
      exact ⟨rfl, Fin.out 1 0⟩
    · go_wp2_with fail
      go_ret
      exact ⟨rfl, Fin.out 0 0⟩

end Go.Proofs.Ytmhkknobgcdkkaa
