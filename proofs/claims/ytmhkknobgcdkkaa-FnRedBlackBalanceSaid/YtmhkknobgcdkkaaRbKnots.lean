/-
  The thin package's knots of a tree: its nodes as a list, each ahead of those below it.
-/
import Derived.Test.YtmhkknobgcdkkaaRbSz
import Derived.Test.YtmhkknobgcdkkaaKnRow
import Derived.Deep.RegionHeldLaw
import Derived.Laws.OwnMore
namespace Go.Proofs.Ytmhkknobgcdkkaa.Rb
open Go.RowKit Go.Proofs.Ytmhkknobgcdkkaa

set_option maxHeartbeats 4000000 in
set_option maxRecDepth 100000 in
theorem redKnots_walk (B : Nat) (S : List Nat) (w0 : World) (t : BT) : ∀ (L : List Kn) (u : Int) (p : Option Nat) (w : World) (A : Option Addr) (cap n : Nat), n = L.length → IsT rbL w0 t p → (∀ b ∈ t.ids, b ∉ S) → UpAt w0 S L u p →
    Only S w0 w → OwnIn w0 S A → w.ownsRow B 47 6 (.slice A n cap) n (knCells L) → n + t.count ≤ 100000 → B ≤ w.heap.size →
    Calls Try.prog 30 #[.slice A n cap, ptr t.root, .int .i64 u] w fun e w' =>
      ∃ A' cap', e = .returned (.tuple #[.slice A' (n + t.count) cap', .int .i64 (numAt n t)]) ∧ w'.ownsRow B 47 6 (.slice A' (n + t.count) cap') (n + t.count) (knCells (L ++ knots n u t)) ∧ OwnIn w0 S A' ∧ Only S w0 w' := by
  induction t with
  | nil =>
    intro L u p w A cap n hn _ _ _ hon hg ho _ _
    simp only [BT.root, ptr, Option.map_none, BT.count]
    have HO := Lib.hid ho
    have HG := Lib.hid hg
    have ON := Lib.hid hon
    clear ho hon hg
    go_enter Try.func30, Try.ntmps30
    go_wp2_with fail
    go_ret2
    exact ⟨A, cap, rfl, by simpa [knots] using HO.out, HG.out, ON.out⟩
  | node i l k v b r ihl ihr =>
    intro L u p w A cap n hn h hid hu hon hg ho hc hB
    subst hn
    have is : i ∉ S := hid i (by simp [BT.ids])
    have ib := h.1.lt
    obtain ⟨g0, g1, g3, g4⟩ := h.1.cells_
    have g2 := h.1.cellP
    have hk0 := (onlyCell (a := ⟨i, 0, none⟩) hon ib is).trans g0
    have hv0 := (onlyCell (a := ⟨i, 1, none⟩) hon ib is).trans g1
    have hT := h.only hon hid
    have SZ := Lib.hid (fun w1 (h1 : IsT rbL w1 (.node i l k v b r) p) => rbNodeSize_walk _ p w1 h1 (by omega))
    simp only [BT.root, ptr, Option.map_some, rb_op] at g2 SZ ⊢
    have HL := Lib.hid ihl
    have HR := Lib.hid ihr
    have HT := Lib.hid h
    have HW := Lib.hid hT
    have HI := Lib.hid hid
    have HU := Lib.hid hu
    have HO := Lib.hid ho
    have ON := Lib.hid hon
    have HG := Lib.hid hg
    have IS := Lib.hid is
    have IB := Lib.hid ib
    have HP2 := Lib.hid g2
    have hcl : L.length + 1 + l.count + r.count ≤ 100000 := by simp only [BT.count] at hc; omega
    clear ihl ihr h hid hu ho hc hon hg is ib hT g1 g2
    generalize ptr l.root = lp at g3 HL
    generalize ptr r.root = rp at g4 HR
    have G0 := Lib.hid g0
    have G3 := Lib.hid g3
    have G4 := Lib.hid g4
    clear g0 g3 g4
    go_enter Try.func30, Try.ntmps30
    go_wp2_with fail
    go_region_held_law (fun w' => w'.cell? ⟨i, 0, none⟩ = some (.iface 3 (.int .i64 k)) ∧ w'.cell? ⟨i, 1, none⟩ = some (.iface 3 (.int .i64 v))) (first | exact ⟨hk0, hv0⟩ | exact K3.out | (go_keep; done))
      (first
        | (go_at_call 40; refine (SZ.out _ HW.out.drew).mono ?_; rintro e wy ⟨rfl, rfl⟩)
        | (refine step_app Try.underlying27 kn_info rfl (by omega) rfl (.tmp 16) (.tmp 31) rfl B (.slice A L.length cap) L.length (knCells L) rfl ((HO.out.alloc _).drew) _ 1 1 (knCells [⟨k, v, u, 0, 0, (l.count + r.count + 1 : Nat)⟩]) rfl (src_blk (Blk.drew (Blk.new _ _ _)) rfl) (knCells_one _) ?_ ?_ ?_ ?_
           · omega
           · omega
           · simp; omega
           intro v1 w3 own3 gr3 ob3
           rw [← knCells_append] at own3
           obtain ⟨A1, cap1, rfl, _, _⟩ := own_slice own3
           have BW3 := Lib.hid (onlyGrown ((ON.out.alloc _).drew) HG.out gr3)
           have HG3 := Lib.hid (ownIn_new ((ON.out.alloc _).drew) HG.out ob3)
           have HZ3 := Lib.hid (show B ≤ w3.heap.size from Nat.le_trans hB (Nat.le_trans (by simp) gr3.size))
           have OW3 := Lib.hid own3
           have K3 := Lib.hid (show w3.cell? ⟨i, 0, none⟩ = some (.iface 3 (.int .i64 k)) ∧ w3.cell? ⟨i, 1, none⟩ = some (.iface 3 (.int .i64 v)) from ⟨((onlyCell BW3.out IB.out IS.out).trans (onlyCell ON.out IB.out IS.out).symm).trans hk0, ((onlyCell BW3.out IB.out IS.out).trans (onlyCell ON.out IB.out IS.out).symm).trans hv0⟩)
           clear own3 gr3 ob3))
    all_goals
      have hk3 : w0.cell? ⟨i, 0, none⟩ = some (.iface 3 (.int .i64 (⟨k, v, u, 0, 0, (l.count + r.count + 1 : Nat)⟩ : Kn).key)) := G0.out
      generalize hX : (⟨k, v, u, 0, 0, (l.count + r.count + 1 : Nat)⟩ : Kn) = x0 at OW3 hk3
      have HX := Lib.hid hX
      have HK3 := Lib.hid hk3
      have hl3' := (onlyCell (a := ⟨i, 3, none⟩) BW3.out IB.out IS.out).trans G3.out
      clear K3 hk0 hv0 SZ HO HW HG hX hk3
      go_wp2_with fail
      refine (HL.out (L ++ [x0]) L.length (some i) w3 A1 cap1 (L.length + 1) (by simp) HT.out.2.1 (fun b hb => HI.out b (by simp [BT.ids, hb])) (.inr ⟨L.length, i, x0, rfl, rfl, IB.out, IS.out, by simp, HK3.out⟩) BW3.out HG3.out OW3.out (by omega) HZ3.out).mono ?_
      rintro e w4 ⟨A2, cap2, rfl, own4, hg4, b4⟩
      have OW4 := Lib.hid own4
      have B4 := Lib.hid b4
      have HG4 := Lib.hid hg4
      have hr4 := (onlyCell (a := ⟨i, 4, none⟩) b4 IB.out IS.out).trans G4.out
      have HZ4 := Lib.hid (show B ≤ w4.heap.size by
        have := hB
        have h1 := own4
        obtain ⟨A9, c9, e9, hnn, hso⟩ := own_slice h1
        injection e9 with e91 _ _
        subst e91
        cases hA : A2 with
        | none => have := (hnn hA).1; omega
        | some a => have := own4.lt a.block (by rw [hA]; rfl); omega)
      clear own4 b4 hg4 HL OW3 BW3 HG3 hl3'
      go_wp2_with fail
      refine (HR.out (L ++ [x0] ++ knots (L.length + 1) L.length l) L.length (some i) w4 A2 cap2 (L.length + 1 + l.count) (by simp [knots_length]; omega) HT.out.2.2 (fun b hb => HI.out b (by simp [BT.ids, hb])) (.inr ⟨L.length, i, x0, rfl, rfl, IB.out, IS.out, by simp, HK3.out⟩) B4.out HG4.out OW4.out (by omega) HZ4.out).mono ?_
      rintro e w5 ⟨A3, cap3, rfl, own5, hg5, b5⟩
      obtain ⟨A3', cap3', e3, hnn, hso⟩ := own_slice own5
      injection e3 with e31 _ e33
      subst e31 e33
      obtain ⟨g, rfl⟩ : ∃ g, A3 = some ⟨g, 0, none⟩ := by
        cases A3 with
        | none => have := (hnn rfl).1; omega
        | some a => obtain ⟨h1, h2⟩ := hso a rfl; exact ⟨a.block, by cases a; simp_all⟩
      have OW5 := Lib.hid own5
      have B5 := Lib.hid b5
      have HG5 := Lib.hid hg5
      clear own5 b5 hg5 HR OW4 B4 HG4 hr4 hnn hso
      have hM : (L ++ [x0] ++ knots (L.length + 1) L.length l ++ knots (L.length + 1 + l.count) L.length r)[L.length]? = some x0 := by simp
      have c3 : w5.cell? ⟨g, L.length * 6 + 3, none⟩ = some (.int .i64 x0.left) := (OW5.out.cellAt _ (by omega)).trans (knCells_getj hM 3 (by omega))
      have c4 : w5.cell? ⟨g, L.length * 6 + 4, none⟩ = some (.int .i64 x0.right) := (OW5.out.cellAt _ (by omega)).trans (knCells_getj hM 4 (by omega))
      have f3 := OW5.out.frozenAt (L.length * 6 + 3)
      have f4 := OW5.out.frozenAt (L.length * 6 + 4)
      have O6 := Lib.hid ((OW5.out.stored (L.length * 6 + 3) (.int .i64 (numAt (L.length + 1) l))).1.stored (L.length * 6 + 4) (.int .i64 (numAt (L.length + 1 + l.count) r))).1
      rw [knCells_set (y := { x0 with left := numAt (L.length + 1) l }) hM 3 (by omega) _ rfl, knCells_set (x := { x0 with left := numAt (L.length + 1) l }) (y := { x0 with left := numAt (L.length + 1) l, right := numAt (L.length + 1 + l.count) r }) (by rw [List.getElem?_set_self (by simp)]) 4 (by omega) _ rfl, List.set_set, ← HX.out, knots_step L u i l k v b r 0 0 _ (by simp)] at O6
      have B6 := Lib.hid ((B5.out.setCell (p := ⟨g, L.length * 6 + 3, none⟩) (HG5.out ⟨g, 0, none⟩ rfl) (.int .i64 (numAt (L.length + 1) l))).setCell (p := ⟨g, L.length * 6 + 4, none⟩) (HG5.out ⟨g, 0, none⟩ rfl) (.int .i64 (numAt (L.length + 1 + l.count) r)))
      go_wp2_with fail
      clear c3 c4 f3 f4 hM OW5 B5
      generalize (w5.setCell ⟨g, L.length * 6 + 3, none⟩ (.int .i64 (numAt (L.length + 1) l))).setCell ⟨g, L.length * 6 + 4, none⟩ (.int .i64 (numAt (L.length + 1 + l.count) r)) = w6 at *
      have hnum : L.length + BT.count (.node i l k v b r) = L.length + 1 + l.count + r.count := by simp only [BT.count]; omega
      rcases HU.out with ⟨rfl, rfl⟩ | ⟨m, j, x, rfl, rfl, hj, hjs, hx, hc⟩
      · have hp6 : w6.cell? ⟨i, 5, none⟩ = some (.pointer none) := (onlyCell B6.out IB.out IS.out).trans HP2.out
        go_quiet (fail)
        go_wp2_with fail
        go_ret2
        rw [hnum]
        exact ⟨_, _, rfl, own_keep O6.out fun _ _ _ => rfl, HG5.out, B6.out.drewN _⟩
      · have hp6 : w6.cell? ⟨i, 5, none⟩ = some (.pointer (some ⟨j, 0, none⟩)) := (onlyCell B6.out IB.out IS.out).trans HP2.out
        have hj6 := (onlyCell (a := ⟨j, 0, none⟩) B6.out hj hjs).trans hc
        have hmL : m < L.length := (List.getElem?_eq_some_iff.1 hx).1
        have hg6 : w6.cell? ⟨g, m * 6, none⟩ = some (.int .i64 x.key) := (O6.out.cellAt _ (by omega)).trans (by
          have h := knCells_getj (l := L ++ knots L.length m (.node i l k v b r)) (i := m) (x := x) (by rw [List.getElem?_append_left hmL]; exact hx) 0 (by omega)
          simpa [knVals] using h)
        have hm0 : (0 : Int) ≤ (m : Int) := by omega
        have hmn : decide ((m : Int) < 0) = false := decide_eq_false (by omega)
        have hmp : decide ((m : Int) ≥ 0) = true := decide_eq_true (by omega)
        have hmq : decide ((0 : Int) ≤ (m : Int)) = true := decide_eq_true (by omega)
        have hbe : (Value.bool (x.key != x.key)) = .bool false := by simp
        have hm1 : (m : Int) < (L.length : Int) + 1 + (l.count : Int) + (r.count : Int) := by omega
        clear hc hx
        go_quiet (fail)
        go_wp2_with fail
        go_ret2
        rw [hnum]
        exact ⟨_, _, rfl, own_keep O6.out fun _ _ _ => rfl, HG5.out, B6.out.drewN _⟩
end Go.Proofs.Ytmhkknobgcdkkaa.Rb
