/- For every order, every list of acts and all two acts: two different numbers are put in, and taken out, in either order. No condition. -/
import Derived.Test.YtpkgmgebhnhhjaaBtKept
import Derived.Deep.RegionHeld3
import Derived.Deep.RegionHeldLaw
import Derived.IntWalk
namespace Go.Proofs.Ytpkgmgebhnhhjaa.Bt
open Go.RowKit Go.Proofs.Ytpkgmgebhnhhjaa

theorem _root_.Go.Proofs.Ytpkgmgebhnhhjaa.RowAt.act1 {w : World} {B g : Nat} {d : Do} (h : RowAt w B (some ⟨g, 0, none⟩) (actCells [d])) : w.cell? ⟨g, 0, none⟩ = some (.int .i64 d.op) ∧ w.cell? ⟨g, 1, none⟩ = some (.int .i64 d.key) ∧ w.cell? ⟨g, 2, none⟩ = some (.int .i64 d.val) := by
  obtain ⟨a0, e0, _, h0⟩ := h 0 (.int .i64 d.op) rfl
  obtain ⟨a1, e1, _, h1⟩ := h 1 (.int .i64 d.key) rfl
  obtain ⟨a2, e2, _, h2⟩ := h 2 (.int .i64 d.val) rfl
  injection e0 with e0; injection e1 with e1; injection e2 with e2
  subst e0 e1 e2
  exact ⟨h0, h1, h2⟩
theorem act2_cells {w w' : World} {p0 p1 p2 q0 q1 q2 : Addr} {x0 x1 x2 y0 y1 y2 : Value} (h : w.cell? p0 = some x0 ∧ w.cell? p1 = some x1 ∧ w.cell? p2 = some x2 ∧ w.cell? q0 = some y0 ∧ w.cell? q1 = some y1 ∧ w.cell? q2 = some y2) (b : Below w.heap.size w w') :
    w'.cell? p0 = some x0 ∧ w'.cell? p1 = some x1 ∧ w'.cell? p2 = some x2 ∧ w'.cell? q0 = some y0 ∧ w'.cell? q1 = some y1 ∧ w'.cell? q2 = some y2 := by
  obtain ⟨h0, h1, h2, h3, h4, h5⟩ := h
  have k : ∀ {p : Addr} {v : Value}, w.cell? p = some v → w'.cell? p = some v := fun hp => (b.cell (World.block_lt_of_cell? _ _ hp)).trans hp
  exact ⟨k h0, k h1, k h2, k h3, k h4, k h5⟩
theorem row_of_blk {w : World} {g : Nat} {d : Do} (h : Blk w g 27 #[.int .i64 d.op, .int .i64 d.key, .int .i64 d.val]) : RowAt w w.heap.size (some ⟨g, 0, none⟩) (actCells [d]) := RowAt.of_blk h

set_option maxHeartbeats 4000000 in
set_option maxRecDepth 100000 in
theorem lawBTreeCommute_walk (m : Int) (o : Ord) (cap : Nat) (A : Option Addr) (acts : List Do) (first second : Do) (w : World) (hA : A = none → acts.length = 0 ∧ cap = 0) (ha : ActsAt w w.heap.size A acts) :
    Calls Try.prog 6 #[.int .i64 m, .agg #[.int .i64 o.kind, .int .i64 o.m], .slice A acts.length cap, .agg #[.int .i64 first.op, .int .i64 first.key, .int .i64 first.val], .agg #[.int .i64 second.op, .int .i64 second.key, .int .i64 second.val]] w fun e w' => e = .returned (.bool true) ∧ Below w.heap.size w w' := by
  have Ha := Lib.hid ha
  have HA := Lib.hid hA
  clear ha hA
  by_cases h0 : 2147483647 < acts.length
  · go_enter Try.func6, Try.ntmps6
    go_wp2_with fail
    go_ret
    exact ⟨rfl, ((((Below.refl _ _).alloc (Nat.le_refl _) _).alloc (by simp) _).alloc (by simp; omega) _)⟩
  by_cases hm1 : m < 3
  · go_enter Try.func6, Try.ntmps6
    go_wp2_with fail
    go_ret
    exact ⟨rfl, ((((Below.refl _ _).alloc (Nat.le_refl _) _).alloc (by simp) _).alloc (by simp; omega) _)⟩
  by_cases hm2 : 64 < m
  · have hm1' : ¬ m < 3 := hm1
    go_enter Try.func6, Try.ntmps6
    go_wp2_with fail
    go_ret
    exact ⟨rfl, ((((Below.refl _ _).alloc (Nat.le_refl _) _).alloc (by simp) _).alloc (by simp; omega) _)⟩
  have hm : 3 ≤ m ∧ m ≤ 64 := ⟨by omega, by omega⟩
  by_cases hp : ¬ o.plain
  · go_enter Try.func6, Try.ntmps6
    go_wp2_with fail
    refine (plain_no o hp _).mono ?_
    rintro e w1 ⟨rfl, rfl⟩
    go_wp2_with fail
    go_ret
    exact ⟨rfl, ((((((Below.refl _ _).alloc (Nat.le_refl _) _).alloc (by simp) _).alloc (by simp; omega) _)).alloc (by simp; omega) _)⟩
  replace hp := Classical.not_not.1 hp
  by_cases h3 : 300 < acts.length
  · go_enter Try.func6, Try.ntmps6
    go_wp2_with fail
    refine (plain_yes o hp _).mono ?_
    rintro e w1 ⟨rfl, rfl⟩
    go_wp2_with fail
    go_ret
    exact ⟨rfl, ((((((Below.refl _ _).alloc (Nat.le_refl _) _).alloc (by simp) _).alloc (by simp; omega) _)).alloc (by simp; omega) _)⟩
  by_cases hk : first.key = second.key
  · have hk1 : (first.key == second.key) = true := by simpa using hk
    clear hk
    go_enter Try.func6, Try.ntmps6
    go_wp2_with fail
    refine (plain_yes o hp _).mono ?_
    rintro e w1 ⟨rfl, rfl⟩
    go_wp2_with fail
    go_ret
    exact ⟨rfl, ((((((Below.refl _ _).alloc (Nat.le_refl _) _).alloc (by simp) _).alloc (by simp; omega) _)).alloc (by simp; omega) _)⟩
  have hk1 : (first.key == second.key) = false := by simpa using hk
  by_cases h1 : first.op = 3
  · have h1' : (first.op == 3) = true := by simpa using h1
    clear h1 hk
    go_enter Try.func6, Try.ntmps6
    go_wp2_with fail
    refine (plain_yes o hp _).mono ?_
    rintro e w1 ⟨rfl, rfl⟩
    go_wp2_with fail
    go_ret
    exact ⟨rfl, ((((((Below.refl _ _).alloc (Nat.le_refl _) _).alloc (by simp) _).alloc (by simp; omega) _)).alloc (by simp; omega) _)⟩
  have h1' : (first.op == 3) = false := by simpa using h1
  by_cases h2 : second.op = 3
  · have h2' : (second.op == 3) = true := by simpa using h2
    clear h1 h2 hk
    go_enter Try.func6, Try.ntmps6
    go_wp2_with fail
    refine (plain_yes o hp _).mono ?_
    rintro e w1 ⟨rfl, rfl⟩
    go_wp2_with fail
    go_ret
    exact ⟨rfl, ((((((Below.refl _ _).alloc (Nat.le_refl _) _).alloc (by simp) _).alloc (by simp; omega) _)).alloc (by simp; omega) _)⟩
  have h2' : (second.op == 3) = false := by simpa using h2
  have Fi := Lib.hid hp.fine
  have L3 := Lib.hid h3
  have Q1 := Lib.hid (show run o (acts ++ [second, first]) = run o (acts ++ [first, second]) by rw [run_snoc2, run_snoc2]; exact (step_comm hp (Asc.run o acts) first second hk h1 h2).symm)
  have Q2 := Lib.hid (show (run o (acts ++ [first, second])).length ≤ 100000 by have := run_length_le o (acts ++ [first, second]); simp at this; omega)
  clear hk h1 h2
  go_enter Try.func6, Try.ntmps6
  go_wp2_with fail
  refine (plain_yes o hp _).mono ?_
  rintro e w1 ⟨rfl, rfl⟩
  have k0 : Kept w w.heap.size o [(A, actCells acts)] [] (w.heap.size + 1) (((w.alloc (.cells #[.int .i64 o.kind, .int .i64 o.m] 23)).alloc (.cells #[.int .i64 first.op, .int .i64 first.key, .int .i64 first.val] 27)).alloc (.cells #[.int .i64 second.op, .int .i64 second.key, .int .i64 second.val] 27)) := (((Kept.init w o).row (((Ha.out.row).below ((Below.refl _ _).alloc (Nat.le_refl _) _)).more (Nat.le_succ _))).alloc _).alloc _
  have k1 := k0.up (C := (((w.alloc (.cells #[.int .i64 o.kind, .int .i64 o.m] 23)).alloc (.cells #[.int .i64 first.op, .int .i64 first.key, .int .i64 first.val] 27)).alloc (.cells #[.int .i64 second.op, .int .i64 second.key, .int .i64 second.val] 27)).heap.size) (by first | (simp; done) | (simp; omega) | omega) (Nat.le_refl _)
  have K := Lib.hid (((k1.row (row_of_blk (g := w.heap.size + 1) (d := first) (Blk.alloc (Blk.newAt (by simp) _ _) _))).row (row_of_blk (g := w.heap.size + 1 + 1) (d := second) (Blk.newAt (by simp) _ _))).alloc (.cells #[.int .i64 o.kind, .int .i64 o.m] 23))
  clear k0 k1
  generalize (((w.alloc (.cells #[.int .i64 o.kind, .int .i64 o.m] 23)).alloc (.cells #[.int .i64 first.op, .int .i64 first.key, .int .i64 first.val] 27)).alloc (.cells #[.int .i64 second.op, .int .i64 second.key, .int .i64 second.val] 27)).alloc (.cells #[.int .i64 o.kind, .int .i64 o.m] 23) = w1 at *
  obtain ⟨hf0, hf1, hf2⟩ := (K.out.rows (some ⟨w.heap.size + 1, 0, none⟩, actCells [first]) (by simp)).act1
  obtain ⟨hs0, hs1, hs2⟩ := (K.out.rows (some ⟨w.heap.size + 1 + 1, 0, none⟩, actCells [second]) (by simp)).act1
  go_wp2_with fail
  have S0 := Lib.hid (show _ ∧ _ ∧ _ ∧ _ ∧ _ ∧ _ from ⟨hf0, hf1, hf2, hs0, hs1, hs2⟩)
  have Sr := Lib.hid (K.out.rows (A, actCells acts) (by simp))
  have KL := Lib.hid K.out.le
  go_region_held_law (fun w' => w'.cell? ⟨w.heap.size + 1, 0, none⟩ = some (.int .i64 first.op) ∧ w'.cell? ⟨w.heap.size + 1, 1, none⟩ = some (.int .i64 first.key) ∧ w'.cell? ⟨w.heap.size + 1, 2, none⟩ = some (.int .i64 first.val) ∧ w'.cell? ⟨w.heap.size + 1 + 1, 0, none⟩ = some (.int .i64 second.op) ∧ w'.cell? ⟨w.heap.size + 1 + 1, 1, none⟩ = some (.int .i64 second.key) ∧ w'.cell? ⟨w.heap.size + 1 + 1, 2, none⟩ = some (.int .i64 second.val)) (first | exact ⟨hf0, hf1, hf2, hs0, hs1, hs2⟩ | exact K3.out | (have kk := K3.out; simp [kk.1, kk.2.1, kk.2.2.1, kk.2.2.2.1, kk.2.2.2.2.1, kk.2.2.2.2.2, World.cell?_alloc_some]; done) | (go_keep; done))
    (first
      | (refine step_app Try.underlying24 act_info rfl (by omega) rfl (.tmp 49) (.tmp 50) rfl w1.heap.size _ 0 [] rfl ?_ A acts.length cap (actCells acts) rfl ?_ (actCells_one _) ?_ ?_ ?_ ?_
         · first | exact own_empty' (Blk.drew (Blk.newAt rfl _ _)) (by simp) | exact own_empty' (Blk.drew (Blk.newAt (by simp) _ _)) (by simp) | exact own_empty' (Blk.drew (Blk.alloc (Blk.newAt rfl _ _) _)) (by simp)
         · refine RowAt.src (B := w1.heap.size) ?_ (actCells_length _) HA.out
           refine (Sr.out.more KL.out).below ?_
           first | exact ((Below.refl _ _).alloc (Nat.le_refl _) _).drew | exact (((Below.refl _ _).alloc (Nat.le_refl _) _).alloc (by simp) _).drew
         · have := L3.out; omega
         · have := L3.out; omega
         · first | (simp; done) | (simp; omega)
         intro v1 wc1 own3 gr3 ob3
         replace gr3 := (show World.grownBy _ wc1 (some _) from gr3)
         rw [Nat.zero_add, List.nil_append] at own3
         obtain ⟨g1, cap1, rfl, _, _⟩ := own_slice own3
         have BW3 := Lib.hid (show Below w1.heap.size w1 wc1 by
           first
           | exact Below.grown ((Below.refl _ _).alloc (Nat.le_refl _) _).drew gr3 (by simp) (by intro k hk; injection hk with hk; simp at hk; omega)
           | exact Below.grown (((Below.refl _ _).alloc (Nat.le_refl _) _).alloc (by simp) _).drew gr3 (by simp; omega) (by intro k hk; injection hk with hk; simp at hk; omega))
         have OW3 := Lib.hid own3
         have K3 := Lib.hid (act2_cells S0.out BW3.out)
         first
         | (have PB := Lib.hid (grown_keep gr3 (show Blk _ (w1.heap.size + 1) 27 #[.int .i64 first.op, .int .i64 first.key, .int .i64 first.val, .int .i64 second.op, .int .i64 second.key, .int .i64 second.val] from Blk.drew (Blk.newAt (by simp) _ _)) (by simp)); clear own3 gr3 ob3)
         | (have PB := Lib.hid (grown_keep gr3 (show Blk _ w1.heap.size 27 #[.int .i64 first.op, .int .i64 first.key, .int .i64 first.val, .int .i64 second.op, .int .i64 second.key, .int .i64 second.val] from Blk.drew (Blk.alloc (Blk.newAt (by simp) _ _) _)) (by simp)); clear own3 gr3 ob3)
         | clear own3 gr3 ob3)
      | (refine step_app Try.underlying24 act_info rfl (by omega) rfl (.tmp 51) (.tmp 54) rfl w1.heap.size (.slice g1 acts.length cap1) acts.length (actCells acts) rfl ?_ _ 2 2 (actCells [first, second]) rfl ?_ (actCells_one _) ?_ ?_ ?_ ?_
         · first | exact OW3.out | exact OW3.out.alloc _
         · first | exact src_blk PB.out rfl | exact src_blk (Blk.new _ _ _) rfl
         · have := L3.out; omega
         · have := L3.out; omega
         · have := BW3.out.size; first | exact this | (simp; omega)
         intro v1 wd1 own4 gr4 ob4
         rw [← actCells_append] at own4
         obtain ⟨A1, cap1, rfl, _, _⟩ := own_slice own4
         have BW4 := Lib.hid (show Below w1.heap.size w1 wd1 by
           have hrow := fun k hk => (OW3.out.lt k hk).1
           have := BW3.out.size
           first
           | exact BW3.out.grown gr4 this hrow
           | exact (BW3.out.alloc this _).grown gr4 (by simp; omega) hrow)
         have OW4 := Lib.hid own4
         have K3 := Lib.hid (act2_cells S0.out BW4.out)
         clear own4 gr4 ob4))
  all_goals
    clear K3 OW3 BW3 S0 hf0 hf1 hf2 hs0 hs1 hs2 Sr
    try clear PB
    have kn := (K.out.next BW4.out KL.out).up (Nat.le_trans KL.out BW4.out.size) (Nat.le_refl _)
    have ow : wd1.ownsRow w1.heap.size 27 3 (.slice A1 (acts.length + 2) cap1) (acts ++ [first, second]).length (actCells (acts ++ [first, second])) := by simpa using OW4.out
    have K := Lib.hid (kn.row (ActsAt.of_own ow).row)
    clear kn ow BW4 OW4 KL
    try simp only [List.getElem_toArray, List.getElem_cons_succ, List.getElem_cons_zero, List.setIfInBounds_toArray, List.set_cons_zero, List.set_cons_succ]
  all_goals
    obtain ⟨hf0, hf1, hf2⟩ := (K.out.rows (some ⟨w.heap.size + 1, 0, none⟩, actCells [first]) (by simp)).act1
    obtain ⟨hs0, hs1, hs2⟩ := (K.out.rows (some ⟨w.heap.size + 1 + 1, 0, none⟩, actCells [second]) (by simp)).act1
    go_wp2_with fail
    have S0 := Lib.hid (show _ ∧ _ ∧ _ ∧ _ ∧ _ ∧ _ from ⟨hf0, hf1, hf2, hs0, hs1, hs2⟩)
    have Sr := Lib.hid (K.out.rows (A, actCells acts) (by simp))
    have KL := Lib.hid K.out.le
    go_region_held_law (fun w' => w'.cell? ⟨w.heap.size + 1, 0, none⟩ = some (.int .i64 first.op) ∧ w'.cell? ⟨w.heap.size + 1, 1, none⟩ = some (.int .i64 first.key) ∧ w'.cell? ⟨w.heap.size + 1, 2, none⟩ = some (.int .i64 first.val) ∧ w'.cell? ⟨w.heap.size + 1 + 1, 0, none⟩ = some (.int .i64 second.op) ∧ w'.cell? ⟨w.heap.size + 1 + 1, 1, none⟩ = some (.int .i64 second.key) ∧ w'.cell? ⟨w.heap.size + 1 + 1, 2, none⟩ = some (.int .i64 second.val)) (first | exact ⟨hf0, hf1, hf2, hs0, hs1, hs2⟩ | exact K3.out | (have kk := K3.out; simp [kk.1, kk.2.1, kk.2.2.1, kk.2.2.2.1, kk.2.2.2.2.1, kk.2.2.2.2.2, World.cell?_alloc_some]; done) | (go_keep; done))
      (first
        | (refine step_app Try.underlying24 act_info rfl (by omega) rfl (.tmp 56) (.tmp 57) rfl wd1.heap.size _ 0 [] rfl ?_ A acts.length cap (actCells acts) rfl ?_ (actCells_one _) ?_ ?_ ?_ ?_
           · first | exact own_empty' (Blk.drew (Blk.newAt rfl _ _)) (by simp) | exact own_empty' (Blk.drew (Blk.newAt (by simp) _ _)) (by simp) | exact own_empty' (Blk.drew (Blk.alloc (Blk.newAt rfl _ _) _)) (by simp)
           · refine RowAt.src (B := wd1.heap.size) ?_ (actCells_length _) HA.out
             refine (Sr.out.more KL.out).below ?_
             first | exact ((Below.refl _ _).alloc (Nat.le_refl _) _).drew | exact (((Below.refl _ _).alloc (Nat.le_refl _) _).alloc (by simp) _).drew
           · have := L3.out; omega
           · have := L3.out; omega
           · first | (simp; done) | (simp; omega)
           intro v2 wc2 own3 gr3 ob3
           replace gr3 := (show World.grownBy _ wc2 (some _) from gr3)
           rw [Nat.zero_add, List.nil_append] at own3
           obtain ⟨g1, cap1, rfl, _, _⟩ := own_slice own3
           have BW3 := Lib.hid (show Below wd1.heap.size wd1 wc2 by
             first
             | exact Below.grown ((Below.refl _ _).alloc (Nat.le_refl _) _).drew gr3 (by simp) (by intro k hk; injection hk with hk; simp at hk; omega)
             | exact Below.grown (((Below.refl _ _).alloc (Nat.le_refl _) _).alloc (by simp) _).drew gr3 (by simp; omega) (by intro k hk; injection hk with hk; simp at hk; omega))
           have OW3 := Lib.hid own3
           have K3 := Lib.hid (act2_cells S0.out BW3.out)
           first
           | (have PB := Lib.hid (grown_keep gr3 (show Blk _ (wd1.heap.size + 1) 27 #[.int .i64 second.op, .int .i64 second.key, .int .i64 second.val, .int .i64 first.op, .int .i64 first.key, .int .i64 first.val] from Blk.drew (Blk.newAt (by simp) _ _)) (by simp)); clear own3 gr3 ob3)
           | (have PB := Lib.hid (grown_keep gr3 (show Blk _ wd1.heap.size 27 #[.int .i64 second.op, .int .i64 second.key, .int .i64 second.val, .int .i64 first.op, .int .i64 first.key, .int .i64 first.val] from Blk.drew (Blk.alloc (Blk.newAt (by simp) _ _) _)) (by simp)); clear own3 gr3 ob3)
           | clear own3 gr3 ob3)
        | (refine step_app Try.underlying24 act_info rfl (by omega) rfl (.tmp 58) (.tmp 61) rfl wd1.heap.size (.slice g1 acts.length cap1) acts.length (actCells acts) rfl ?_ _ 2 2 (actCells [second, first]) rfl ?_ (actCells_one _) ?_ ?_ ?_ ?_
           · first | exact OW3.out | exact OW3.out.alloc _
           · first | exact src_blk PB.out rfl | exact src_blk (Blk.new _ _ _) rfl
           · have := L3.out; omega
           · have := L3.out; omega
           · have := BW3.out.size; first | exact this | (simp; omega)
           intro v2 wd2 own4 gr4 ob4
           rw [← actCells_append] at own4
           obtain ⟨A2, cap2, rfl, _, _⟩ := own_slice own4
           have BW4 := Lib.hid (show Below wd1.heap.size wd1 wd2 by
             have hrow := fun k hk => (OW3.out.lt k hk).1
             have := BW3.out.size
             first
             | exact BW3.out.grown gr4 this hrow
             | exact (BW3.out.alloc this _).grown gr4 (by simp; omega) hrow)
           have OW4 := Lib.hid own4
           have K3 := Lib.hid (act2_cells S0.out BW4.out)
           clear own4 gr4 ob4))
    all_goals
      clear K3 OW3 BW3 S0 hf0 hf1 hf2 hs0 hs1 hs2 Sr
      try clear PB
      have kn := (K.out.next BW4.out KL.out).up (Nat.le_trans KL.out BW4.out.size) (Nat.le_refl _)
      have ow : wd2.ownsRow wd1.heap.size 27 3 (.slice A2 (acts.length + 2) cap2) (acts ++ [second, first]).length (actCells (acts ++ [second, first])) := by simpa using OW4.out
      have K := Lib.hid (kn.row (ActsAt.of_own ow).row)
      clear kn ow BW4 OW4 KL
      try simp only [List.getElem_toArray, List.getElem_cons_succ, List.getElem_cons_zero, List.setIfInBounds_toArray, List.set_cons_zero, List.set_cons_succ]
  all_goals
    obtain ⟨hc0, hc1⟩ := K.out.c
    go_wp2_with fail
    have K := Lib.hid K.out.drew
    go_region_held3 (fun w' => w'.cell? ⟨w.heap.size, 0, none⟩ = some (.int .i64 o.kind) ∧ w'.cell? ⟨w.heap.size, 1, none⟩ = some (.int .i64 o.m)) (exact K.out.c)
      (first
        | (go_at_call_of 34 (A1 : Option Addr); refine (keptState m hm K.out Fi.out A1 (acts ++ [first, second]) _ _ ?_ ?_ ?_).mono ?_; (simp); (have := L3.out; first | omega | (simp; omega)); (simp); rintro e wy ⟨v1, rfl, k⟩; have K := Lib.hid k; clear k)
        | (go_at_call_of 34 (A2 : Option Addr); refine (keptState m hm K.out Fi.out A2 (acts ++ [second, first]) _ _ ?_ ?_ ?_).mono ?_; (simp); (have := L3.out; first | omega | (simp; omega)); (simp); rintro e wy ⟨v2, rfl, k⟩; rw [Q1.out] at k; have K := Lib.hid k; clear k)
        | (go_at_call 33; refine (keptSame K.out v1 v2 (run o (acts ++ [first, second])) Q2.out ?_ ?_).mono ?_; (simp); (simp); rintro e wy ⟨rfl, k⟩; have K := Lib.hid k; clear k)
        | (go_at_call 31; refine (keptGrows K.out).mono ?_; rintro e wy ⟨rfl, k⟩; have K := Lib.hid k; clear k)
      )
  all_goals
    go_wp2_with fail
    go_ret
    exact ⟨rfl, by first | exact K.out.below | exact K.out.drew.below⟩

end Go.Proofs.Ytpkgmgebhnhhjaa.Bt
