/-
  The reference's Run: it does the acts to a list.
-/
import Derived.Test.YtpkgmgebhnhhjaaRegApp
import Derived.Test.YtpkgmgebhnhhjaaSpecSame
import Derived.IntWalk
namespace Go.Proofs.Ytpkgmgebhnhhjaa
open Go.RowKit

theorem own_some {w : World} {base : Nat} {e : TypeId} {size : Nat} {v : Value} {n : Nat} {xs : List Value} (h : w.ownsRow base e size v n xs) (hv : v.ownBlock ≠ none) :
    ∃ g cap, v = .slice (some ⟨g, 0, none⟩) n cap ∧ n ≤ cap ∧ cap ≤ maxLen ∧ base ≤ g ∧ g < w.heap.size := by
  have hlt := fun k hk => (h.lt k hk)
  rcases h.2 with ⟨rfl, rfl⟩ | ⟨g, cap, cur, rfl, hb, hg, hnc, hcm, hcs, htk⟩
  · simp [Value.ownBlock] at hv
  · exact ⟨g, cap, rfl, hnc, hcm, hb, Blk.lt (show Blk w g e cur from hg)⟩

theorem own_room {w : World} {base : Nat} {e : TypeId} {size g n n' cap : Nat} {xs : List Value} (h : w.ownsRow base e size (.slice (some ⟨g, 0, none⟩) n cap) n' xs) :
    n ≤ cap ∧ cap ≤ maxLen ∧ base ≤ g ∧ g < w.heap.size := by
  rcases h.2 with ⟨h0, _⟩ | ⟨g', cap', cur, hv, hb, hg, hnc, hcm, hcs, htk⟩
  · cases h0
  · injection hv with h1 h2 h3
    injection h1 with h1
    injection h1 with h1
    subst h1 h2 h3
    exact ⟨hnc, hcm, hb, Blk.lt (show Blk w g e cur from hg)⟩

/-- Behind a put: the new list, in a row of the call's own. -/
theorem put_next {w : World} {base j at' m : Nat} {v : Value} {o : Ord} {L : KV} {d : Do} {T : KV} (fin : T = step o L d) (e1 : step o L d = ins o d.key d.val L) (gi : ins o d.key d.val L = L.take at' ++ (d.key, d.val) :: L.drop j) (ha : at' ≤ L.length)
    (hm : m = L.length - j) (own : w.ownsRow base 54 2 v (at' + 1 + m) (prCells (L.take at' ++ [(d.key, d.val)]) ++ prCells (L.drop j))) :
    T.length = at' + 1 + m ∧ w.ownsRow base 54 2 v (at' + 1 + m) (prCells T) := by
  have e : T = (L.take at' ++ [(d.key, d.val)]) ++ L.drop j := by rw [fin, e1, gi]; simp
  refine ⟨?_, by rw [e, prCells_append]; exact own⟩
  rw [e, hm]
  simp only [List.length_append, List.length_take, List.length_drop, List.length_cons, List.length_nil]
  omega

theorem rem_next {w : World} {base at' m : Nat} {v : Value} {o : Ord} {L : KV} {d : Do} {T : KV} (fin : T = step o L d) (e1 : step o L d = L.take at' ++ L.drop (at' + 1)) (ha : at' ≤ L.length)
    (hm : m = L.length - (at' + 1)) (own : w.ownsRow base 54 2 v (at' + m) (prCells (L.take at') ++ prCells (L.drop (at' + 1)))) :
    T.length = at' + m ∧ w.ownsRow base 54 2 v (at' + m) (prCells T) := by
  have e : T = L.take at' ++ L.drop (at' + 1) := by rw [fin, e1]
  refine ⟨?_, by rw [e, prCells_append]; exact own⟩
  rw [e, hm]
  simp only [List.length_append, List.length_take, List.length_drop]
  omega

set_option maxHeartbeats 4000000 in
set_option maxRecDepth 100000 in
theorem run_walk (o : Ord) (ho : o.fine) (n cap : Nat) (A : Option Addr) (acts : List Do) (w : World) (hn : acts.length = n) (hn1 : n ≤ 1000) (ha : ActsAt w w.heap.size A acts) :
    Calls Try.prog 37 #[.agg #[.int .i64 o.kind, .int .i64 o.m], .slice A n cap] w fun e w' =>
      ∃ g cap, e = .returned (.slice (some ⟨g, 0, none⟩) (run o acts).length cap) ∧ w'.ownsRow w.heap.size 54 2 (.slice (some ⟨g, 0, none⟩) (run o acts).length cap) (run o acts).length (prCells (run o acts)) ∧ Below w.heap.size w w' := by
  have Ha := Lib.hid ha
  have HN := Lib.hid hn
  clear ha hn
  go_enter Try.func37, Try.ntmps37
  go_wp2_with fail
  go_loopw [5, 14] (fun v i wr => ∃ (k g cap : Nat), k ≤ n ∧ i = .int .i64 k ∧ v = .slice (some ⟨g, 0, none⟩) ((acts.take k).foldl (step o) []).length cap ∧ wr.ownsRow (w.heap.size + 1) 54 2 (.slice (some ⟨g, 0, none⟩) ((acts.take k).foldl (step o) []).length cap) ((acts.take k).foldl (step o) []).length (prCells ((acts.take k).foldl (step o) [])) ∧
      Below w.heap.size w wr ∧ Blk wr w.heap.size 23 #[.int .i64 o.kind, .int .i64 o.m]) (fun _ i _ => n - (intOf i).toNat)
  case atStart =>
    exact ⟨0, w.heap.size + 1, 0, Nat.zero_le _, rfl, rfl, own_empty (Blk.newAt (by simp) _ _) (Nat.le_refl _), ((Below.refl _ _).alloc (Nat.le_refl _) _).alloc (by simp) _, Blk.alloc (Blk.new _ _ _) _⟩
  case round =>
    obtain ⟨k, g, cap', hk, rfl, rfl, hown, hw, hb⟩ := hrel
    by_cases hlt : k < n
    · obtain ⟨a, d, rfl, hab, hd, c0, c1, c2⟩ := ActsAt.at_ (Ha.out.below hw) (i := k) (by have := HN.out; omega)
      have hlen := foldl_take_length o [] (Asc.nil o) acts k
      have hasc := Asc.foldl (Asc.nil o) (acts.take k)
      have fin := foldl_take_succ o [] acts k d hd
      generalize hL : (acts.take k).foldl (step o) [] = L at *
      have Fin := Lib.hid fin
      have Len := Lib.hid (show L.length ≤ 1000 by have := HN.out; simp at hlen; omega)
      have HL := Lib.hid hL
      have OB := Lib.hid (Blk.alloc hb (.cells #[.int .i64 d.op, .int .i64 d.key, .int .i64 d.val] 27))
      have AB := Lib.hid (Blk.new wr 27 #[.int .i64 d.op, .int .i64 d.key, .int .i64 d.val])
      have OW := Lib.hid (hown.alloc (.cells #[.int .i64 d.op, .int .i64 d.key, .int .i64 d.val] 27))
      have BW := Lib.hid (hw.alloc hw.size (.cells #[.int .i64 d.op, .int .i64 d.key, .int .i64 d.val] 27))
      have hc0 : (wr.alloc (.cells #[.int .i64 d.op, .int .i64 d.key, .int .i64 d.val] 27)).cell? ⟨w.heap.size, 0, none⟩ = some (.int .i64 o.kind) := OB.out.cell 0
      have hc1 : (wr.alloc (.cells #[.int .i64 d.op, .int .i64 d.key, .int .i64 d.val] 27)).cell? ⟨w.heap.size, 1, none⟩ = some (.int .i64 o.m) := OB.out.cell 1
      clear hown hw hb hd hL fin hlen hasc
      go_wp2_with fail
      generalize wr.alloc (.cells #[.int .i64 d.op, .int .i64 d.key, .int .i64 d.val] 27) = wa at *
      refine (at_walk o ho d.key L.length cap' _ L _ rfl (by have := Len.out; omega) (RowAt.of_own OW.out)).mono ?_
      rintro e w1 ⟨rfl, b1⟩
      have OW1 := Lib.hid (own_below OW.out b1)
      have OB1 := Lib.hid (OB.out.below b1 OB.out.lt)
      have AB1 := Lib.hid (AB.out.below b1 AB.out.lt)
      have BW1 := Lib.hid (BW.out.trans (b1.mono BW.out.size))
      have hd0 : w1.cell? ⟨w.heap.size, 0, none⟩ = some (.int .i64 o.kind) := OB1.out.cell 0
      have hd1 : w1.cell? ⟨w.heap.size, 1, none⟩ = some (.int .i64 o.m) := OB1.out.cell 1
      have he1 : w1.cell? ⟨wr.heap.size, 1, none⟩ = some (.int .i64 d.key) := AB1.out.cell 1
      clear b1 OW OB AB BW hc0 hc1
      go_wp2_with fail
      refine (has_walk o ho d.key L.length cap' _ L _ rfl (RowAt.of_own OW1.out)).mono ?_
      rintro e w2 ⟨rfl, b2⟩
      have OW := Lib.hid (own_below OW1.out b2)
      have OB := Lib.hid (OB1.out.below b2 OB1.out.lt)
      have AB := Lib.hid (AB1.out.below b2 AB1.out.lt)
      have BW := Lib.hid (BW1.out.trans (b2.mono BW1.out.size))
      have ha0 : w2.cell? ⟨wr.heap.size, 0, none⟩ = some (.int .i64 d.op) := AB.out.cell 0
      have ha1 : w2.cell? ⟨wr.heap.size, 1, none⟩ = some (.int .i64 d.key) := AB.out.cell 1
      have ha2 : w2.cell? ⟨wr.heap.size, 2, none⟩ = some (.int .i64 d.val) := AB.out.cell 2
      clear b2 OW1 OB1 AB1 BW1 hd0 hd1 he1
      have gi := ins_plc o d.key d.val L
      have gd := del_plc o d.key L
      have Pl := Lib.hid (plc_le o d.key L)
      have pd : plc o d.key L + (if hasK o d.key L then 1 else 0) ≤ L.length := by
        by_cases hh : hasK o d.key L = true
        · obtain ⟨p, hp, _⟩ := hasK_some hh
          have := (List.getElem?_eq_some_iff.1 hp).1
          rw [if_pos hh]; omega
        · have := plc_le o d.key L
          rw [if_neg hh]; omega
      generalize hasK o d.key L = hs at *
      generalize plc o d.key L = at' at *
      have Bs := Lib.hid (show w.heap.size ≤ w2.heap.size from BW.out.size)
      have Ob := Lib.hid OB.out.lt
      have Wb := Lib.hid (show w.heap.size + 1 ≤ w2.heap.size from OB.out.lt)
      cases hs with
      | true =>
        simp only [if_true] at gi gd pd
        have Gi := Lib.hid gi
        have Pd := Lib.hid pd
        clear gi pd
        have hroom := own_room OW.out
        have R0 := Lib.hid (RowAt.of_own OW.out)
        have PLn := Lib.hid (show at' ≤ 1000 by have := Pl.out; have := Len.out; omega)
        have hp1 : (at' : Int) ≤ (cap' : Int) := by have := Pl.out; omega
        have hp0 : (0 : Int) ≤ (at' : Int) := by omega
        have Rm := Lib.hid hroom
        clear hroom
        have hq1 : (at' : Int) + 1 ≤ (L.length : Int) := by have := Pd.out; omega
        have hq2 : (at' : Int) ≤ 1000 := by have := PLn.out; omega
        have hq3 : (at' : Int) + 1 ≤ (cap' : Int) := by have := Rm.out; omega
        have hnt : ((at' : Int) + 1).toNat = (at' + 1) := by omega
        by_cases h1 : d.op = 1
        · have e1 := Lib.hid (show step o L d = ins o d.key d.val L by unfold step; rw [if_pos h1])
          rw [h1] at ha0
          clear h1 gd
          go_wp2_with fail
          go_region_held_law (fun w' => w'.cell? ⟨wr.heap.size, 1, none⟩ = some (.int .i64 d.key) ∧ w'.cell? ⟨wr.heap.size, 2, none⟩ = some (.int .i64 d.val)) (first | exact ⟨ha1, ha2⟩ | exact K3.out | (have kk := K3.out; simp [kk.1, kk.2, World.cell?_alloc_some]; done) | (go_keep; done) | trace_state; fail)
            (first
              | (refine step_app Try.underlying49 pr_info rfl (by omega) rfl (.tmp 33) (.tmp 36) rfl w2.heap.size _ 0 [] rfl ?_ (some ⟨g, 0, none⟩) at' cap' (prCells (L.take at')) rfl ?_ (prCells_one _) ?_ ?_ ?_ ?_
                 · first | exact own_empty' (Blk.drew (Blk.newAt rfl _ _)) (by simp) | exact own_empty' (Blk.drew (Blk.newAt (by simp) _ _)) (by simp) | exact own_empty' (Blk.drew (Blk.alloc (Blk.newAt rfl _ _) _)) (by simp)
                 · refine RowAt.src (B := w2.heap.size) ?_ (by rw [prCells_length, List.length_take]; have := Pl.out; omega) (by simp)
                   rw [prCells_take]
                   refine (R0.out.below ?_).take _
                   first | exact ((Below.refl _ _).alloc (Nat.le_refl _) _).drew | exact (((Below.refl _ _).alloc (Nat.le_refl _) _).alloc (by simp) _).drew
                 · have := PLn.out; omega
                 · have := PLn.out; omega
                 · first | (simp; done) | (simp; omega)
                 intro v1 w3 own3 gr3 ob3
                 replace gr3 := (show World.grownBy _ w3 (some _) from gr3)
                 replace ob3 := (show v1.ownBlock = some _ ∨ v1.ownBlock = some _ from ob3)
                 rw [Nat.zero_add, List.nil_append] at own3
                 obtain ⟨g1, cap1, rfl, _, _, _, _⟩ := own_some own3 (by rcases ob3 with h | h <;> rw [h] <;> simp)
                 have BW3 := Lib.hid (show Below w2.heap.size w2 w3 by
                   first
                   | exact Below.grown ((Below.refl _ _).alloc (Nat.le_refl _) _).drew gr3 (by simp) (by intro k hk; injection hk with hk; simp at hk; omega)
                   | exact Below.grown (((Below.refl _ _).alloc (Nat.le_refl _) _).alloc (by simp) _).drew gr3 (by simp; omega) (by intro k hk; injection hk with hk; simp at hk; omega))
                 have OW3 := Lib.hid own3
                 have K3 := Lib.hid (show w3.cell? ⟨wr.heap.size, 1, none⟩ = some (.int .i64 d.key) ∧ w3.cell? ⟨wr.heap.size, 2, none⟩ = some (.int .i64 d.val) from ⟨(BW3.out.cell (World.block_lt_of_cell? _ _ ha1)).trans ha1, (BW3.out.cell (World.block_lt_of_cell? _ _ ha2)).trans ha2⟩)
                 first
                 | (have PB := Lib.hid (grown_keep gr3 (show Blk _ (w2.heap.size + 1) 54 #[.int .i64 d.key, .int .i64 d.val] from Blk.drew (Blk.newAt (by simp) _ _)) (by simp)); clear own3 gr3 ob3)
                 | (have PB := Lib.hid (grown_keep gr3 (show Blk _ w2.heap.size 54 #[.int .i64 d.key, .int .i64 d.val] from Blk.drew (Blk.alloc (Blk.newAt (by simp) _ _) _)) (by simp)); clear own3 gr3 ob3)
                 | clear own3 gr3 ob3)
              | (refine step_app Try.underlying49 pr_info rfl (by omega) rfl (.tmp 37) (.tmp 43) rfl w2.heap.size (.slice (some ⟨g1, 0, none⟩) at' cap1) at' (prCells (L.take at')) rfl ?_ _ 1 1 (prCells [(d.key, d.val)]) rfl ?_ (prCells_one _) ?_ ?_ ?_ ?_
                 · first | exact OW3.out | exact OW3.out.alloc _
                 · first | exact src_blk PB.out rfl | exact src_blk (Blk.new _ _ _) rfl
                 · have := PLn.out; omega
                 · have := PLn.out; omega
                 · have := BW3.out.size; first | exact this | (simp; omega)
                 intro v2 w4 own4 gr4 ob4
                 replace ob4 := (show v2.ownBlock = some _ ∨ v2.ownBlock = some _ from ob4)
                 rw [← prCells_append] at own4
                 obtain ⟨g2, cap2, rfl, _, _, _, _⟩ := own_some own4 (by rcases ob4 with h | h <;> rw [h] <;> simp)
                 have BW4 := Lib.hid (show Below w2.heap.size w2 w4 by
                   have hrow := fun k hk => (OW3.out.lt k hk).1
                   have := BW3.out.size
                   first
                   | exact BW3.out.grown gr4 this hrow
                   | exact (BW3.out.alloc this _).grown gr4 (by simp; omega) hrow)
                 have OW4 := Lib.hid own4
                 have K3 := Lib.hid (show w4.cell? ⟨wr.heap.size, 1, none⟩ = some (.int .i64 d.key) ∧ w4.cell? ⟨wr.heap.size, 2, none⟩ = some (.int .i64 d.val) from ⟨(BW4.out.cell (World.block_lt_of_cell? _ _ ha1)).trans ha1, (BW4.out.cell (World.block_lt_of_cell? _ _ ha2)).trans ha2⟩)
                 clear own4 gr4 ob4))
          all_goals
            clear K3 OW3 BW3
            try clear PB
            have R4 := Lib.hid (RowAt.step R0.out BW4.out)
            have OB4 := Lib.hid (OB.out.below BW4.out OB.out.lt)
            have BB4 := Lib.hid (BW.out.trans (BW4.out.mono BW.out.size))
            have hsz := Lib.hid (show w2.heap.size ≤ w4.heap.size from BW4.out.size)
            clear BW4 ha0 ha1 ha2 OW OB BW
          all_goals go_wp2_with (at_builtin; refine Hid.out ?_)
          all_goals delta Hid
          all_goals
            refine wpList_appT Try.underlying49 pr_info rfl (by omega) rfl (.tmp 48) (.tmp 51) rfl w2.heap.size _ (at' + 1) (prCells (L.take at' ++ [(d.key, d.val)])) rfl OW4.out _ _ _ (prCells (L.drop (at' + 1))) rfl ?src (prCells_one _) ?l1 ?l2 hsz.out ?_
            case src => exact src_tail R4.out (by first | rfl | omega) (by first | exact .inl (add_at _ _).symm | (right; have := Rm.out; omega))
            case l1 => have := PLn.out; have := Len.out; omega
            case l2 => have := PLn.out; have := Len.out; omega
            intro v5 w5 own5 gr5 ob5
            replace ob5 := (show v5.ownBlock = some _ ∨ v5.ownBlock = some _ from ob5)
            obtain ⟨g5, cap5, rfl, _, _, _, _⟩ := own_some own5 (by rcases ob5 with h | h <;> rw [h] <;> simp)
            have b5 : Below w2.heap.size w4 w5 := (Below.refl _ _).grown gr5 hsz.out (fun k hk => (OW4.out.lt k hk).1)
            have F := Lib.hid (put_next Fin.out e1.out Gi.out (by have := Pd.out; omega) (by first | rfl | omega) own5)
            have W5 := Lib.hid (BB4.out.trans (b5.mono Bs.out))
            have O5 := Lib.hid (OB4.out.below b5 Ob.out)
            clear own5 gr5 ob5 b5 OB4 BB4
            go_wp2_with fail
            go_roundw
            case rel => obtain ⟨f1, f2⟩ := F.out; exact ⟨k + 1, g5, cap5, by omega, by go_num, by rw [f1], by rw [f1]; exact own_base (by first | exact f2 | (rw [f1] at f2; exact f2)) Wb.out, W5.out, O5.out⟩
            case measure => simp [intOf]; omega
        · by_cases h2 : d.op = 2
          · have e1 := Lib.hid (show step o L d = L.take at' ++ L.drop (at' + 1) by unfold step; rw [if_neg h1, if_pos h2, gd])
            rw [h2] at ha0
            clear h1 h2 gd
            by_cases hcc : cap' = at' + 1
            all_goals
              try (have hcc' : ¬ at' + 1 = cap' := fun e => hcc e.symm)
              try subst hcc
              have hwr : IntKind.i64.wrap ((at' : Int) + 1) = (at' : Int) + 1 := IntWalk.i64_in _ (by omega)
              have hwp : (0 : Int) ≤ (at' : Int) + 1 := by omega
              go_wp2_with fail
              go_region_held_law (fun _ => True) (trivial)
                (first
                  | (refine step_app Try.underlying49 pr_info rfl (by omega) rfl (.tmp 56) (.tmp 59) rfl w2.heap.size _ 0 [] rfl ?_ (some ⟨g, 0, none⟩) at' _ (prCells (L.take at')) rfl ?_ (prCells_one _) ?_ ?_ ?_ ?_
                     · exact own_empty' (Blk.drew (Blk.newAt rfl _ _)) (by simp)
                     · exact src_head (R0.out.below ((Below.refl _ _).alloc (Nat.le_refl _) _).drew) Pl.out
                     · have := PLn.out; omega
                     · have := PLn.out; omega
                     · first | (simp; done) | (simp; omega)
                     intro v1 w3 own3 gr3 ob3
                     replace gr3 := (show World.grownBy _ w3 (some _) from gr3)
                     replace ob3 := (show v1.ownBlock = some _ ∨ v1.ownBlock = some _ from ob3)
                     rw [Nat.zero_add, List.nil_append] at own3
                     obtain ⟨g1, cap1, rfl, _, _, _, _⟩ := own_some own3 (by rcases ob3 with h | h <;> rw [h] <;> simp)
                     have BW3 := Lib.hid (show Below w2.heap.size w2 w3 from Below.grown ((Below.refl _ _).alloc (Nat.le_refl _) _).drew gr3 (by simp) (by intro k hk; injection hk with hk; simp at hk; omega))
                     have OW3 := Lib.hid own3
                     clear own3 gr3 ob3)
                  | (refine step_app Try.underlying49 pr_info rfl (by omega) rfl (.tmp 60) (.tmp 64) rfl w2.heap.size (.slice (some ⟨g1, 0, none⟩) at' cap1) at' (prCells (L.take at')) rfl OW3.out _ _ _ (prCells (L.drop (at' + 1))) rfl ?_ (prCells_one _) ?_ ?_ BW3.out.size ?_
                     · exact src_tail (R0.out.below BW3.out) (by first | rfl | omega) (by first | exact .inl (add_at _ _).symm | (right; have := Rm.out; omega))
                     · have := PLn.out; have := Len.out; omega
                     · have := PLn.out; have := Len.out; omega
                     intro v5 w5 own5 gr5 ob5
                     replace ob5 := (show v5.ownBlock = some _ ∨ v5.ownBlock = some _ from ob5)
                     obtain ⟨g5, cap5, rfl, _, _, _, _⟩ := own_some own5 (by rcases ob5 with h | h <;> rw [h] <;> simp)
                     have b5 : Below w2.heap.size w2 w5 := BW3.out.grown gr5 BW3.out.size (fun k hk => (OW3.out.lt k hk).1)
                     have F := Lib.hid (rem_next Fin.out e1.out (by have := Pd.out; omega) (by first | rfl | omega) own5)
                     have W5 := Lib.hid (BW.out.trans (b5.mono Bs.out))
                     have O5 := Lib.hid (OB.out.below b5 Ob.out)
                     clear own5 gr5 ob5 b5))
              all_goals
                go_wp2_with fail
                go_roundw
                case rel => obtain ⟨f1, f2⟩ := F.out; exact ⟨k + 1, g5, cap5, by omega, by go_num, by rw [f1], by rw [f1]; exact own_base (by first | exact f2 | (rw [f1] at f2; exact f2)) Wb.out, W5.out, O5.out⟩
                case measure => simp [intOf]; omega
          · by_cases h3 : d.op = 3
            · have e1 := Lib.hid (show step o L d = [] by unfold step; rw [if_neg h1, if_neg h2, if_pos h3])
              rw [h3] at ha0
              have F := Lib.hid (show (w2.alloc (.cells #[] 54)).ownsRow (w.heap.size + 1) 54 2 (.slice (some ⟨w2.heap.size, 0, none⟩) 0 0) 0 [] from own_empty' (Blk.newAt rfl _ _) Wb.out)
              clear h1 h2 h3 gd
              go_wp2_with fail
              go_roundw
              case rel => exact ⟨k + 1, w2.heap.size, 0, by omega, by go_num, by rw [Fin.out, e1.out]; rfl, by rw [Fin.out, e1.out]; exact F.out, BW.out.alloc Bs.out _, OB.out.alloc _⟩
              case measure => simp [intOf]; omega
            · have e1 := Lib.hid (show step o L d = L by unfold step; rw [if_neg h1, if_neg h2, if_neg h3])
              have g1 : (d.op == 1) = false := by simpa using h1
              have g2 : (d.op == 2) = false := by simpa using h2
              have g3 : (d.op == 3) = false := by simpa using h3
              clear h1 h2 h3 gd
              go_wp2_with fail
              go_roundw
              case rel => exact ⟨k + 1, g, cap', by omega, by go_num, by rw [Fin.out, e1.out], by rw [Fin.out, e1.out]; exact OW.out, BW.out, OB.out⟩
              case measure => simp [intOf]; omega
      | false =>
        simp only [Bool.false_eq_true, if_false, Nat.add_zero] at gi gd pd
        have Gi := Lib.hid gi
        have Pd := Lib.hid pd
        clear gi pd
        have hroom := own_room OW.out
        have R0 := Lib.hid (RowAt.of_own OW.out)
        have PLn := Lib.hid (show at' ≤ 1000 by have := Pl.out; have := Len.out; omega)
        have hp1 : (at' : Int) ≤ (cap' : Int) := by have := Pl.out; omega
        have hp0 : (0 : Int) ≤ (at' : Int) := by omega
        have Rm := Lib.hid hroom
        clear hroom
        have hq1 : (at' : Int) ≤ (L.length : Int) := by have := Pd.out; omega
        have hq2 : (at' : Int) ≤ 1000 := by have := PLn.out; omega
        have hq3 : (at' : Int) ≤ (cap' : Int) := by have := Rm.out; omega
        have hnt : ((at' : Int)).toNat = at' := by omega
        by_cases h1 : d.op = 1
        · have e1 := Lib.hid (show step o L d = ins o d.key d.val L by unfold step; rw [if_pos h1])
          rw [h1] at ha0
          clear h1 gd
          go_wp2_with fail
          go_region_held_law (fun w' => w'.cell? ⟨wr.heap.size, 1, none⟩ = some (.int .i64 d.key) ∧ w'.cell? ⟨wr.heap.size, 2, none⟩ = some (.int .i64 d.val)) (first | exact ⟨ha1, ha2⟩ | exact K3.out | (have kk := K3.out; simp [kk.1, kk.2, World.cell?_alloc_some]; done) | (go_keep; done) | trace_state; fail)
            (first
              | (refine step_app Try.underlying49 pr_info rfl (by omega) rfl (.tmp 33) (.tmp 36) rfl w2.heap.size _ 0 [] rfl ?_ (some ⟨g, 0, none⟩) at' cap' (prCells (L.take at')) rfl ?_ (prCells_one _) ?_ ?_ ?_ ?_
                 · first | exact own_empty' (Blk.drew (Blk.newAt rfl _ _)) (by simp) | exact own_empty' (Blk.drew (Blk.newAt (by simp) _ _)) (by simp) | exact own_empty' (Blk.drew (Blk.alloc (Blk.newAt rfl _ _) _)) (by simp)
                 · refine RowAt.src (B := w2.heap.size) ?_ (by rw [prCells_length, List.length_take]; have := Pl.out; omega) (by simp)
                   rw [prCells_take]
                   refine (R0.out.below ?_).take _
                   first | exact ((Below.refl _ _).alloc (Nat.le_refl _) _).drew | exact (((Below.refl _ _).alloc (Nat.le_refl _) _).alloc (by simp) _).drew
                 · have := PLn.out; omega
                 · have := PLn.out; omega
                 · first | (simp; done) | (simp; omega)
                 intro v1 w3 own3 gr3 ob3
                 replace gr3 := (show World.grownBy _ w3 (some _) from gr3)
                 replace ob3 := (show v1.ownBlock = some _ ∨ v1.ownBlock = some _ from ob3)
                 rw [Nat.zero_add, List.nil_append] at own3
                 obtain ⟨g1, cap1, rfl, _, _, _, _⟩ := own_some own3 (by rcases ob3 with h | h <;> rw [h] <;> simp)
                 have BW3 := Lib.hid (show Below w2.heap.size w2 w3 by
                   first
                   | exact Below.grown ((Below.refl _ _).alloc (Nat.le_refl _) _).drew gr3 (by simp) (by intro k hk; injection hk with hk; simp at hk; omega)
                   | exact Below.grown (((Below.refl _ _).alloc (Nat.le_refl _) _).alloc (by simp) _).drew gr3 (by simp; omega) (by intro k hk; injection hk with hk; simp at hk; omega))
                 have OW3 := Lib.hid own3
                 have K3 := Lib.hid (show w3.cell? ⟨wr.heap.size, 1, none⟩ = some (.int .i64 d.key) ∧ w3.cell? ⟨wr.heap.size, 2, none⟩ = some (.int .i64 d.val) from ⟨(BW3.out.cell (World.block_lt_of_cell? _ _ ha1)).trans ha1, (BW3.out.cell (World.block_lt_of_cell? _ _ ha2)).trans ha2⟩)
                 first
                 | (have PB := Lib.hid (grown_keep gr3 (show Blk _ (w2.heap.size + 1) 54 #[.int .i64 d.key, .int .i64 d.val] from Blk.drew (Blk.newAt (by simp) _ _)) (by simp)); clear own3 gr3 ob3)
                 | (have PB := Lib.hid (grown_keep gr3 (show Blk _ w2.heap.size 54 #[.int .i64 d.key, .int .i64 d.val] from Blk.drew (Blk.alloc (Blk.newAt (by simp) _ _) _)) (by simp)); clear own3 gr3 ob3)
                 | clear own3 gr3 ob3)
              | (refine step_app Try.underlying49 pr_info rfl (by omega) rfl (.tmp 37) (.tmp 43) rfl w2.heap.size (.slice (some ⟨g1, 0, none⟩) at' cap1) at' (prCells (L.take at')) rfl ?_ _ 1 1 (prCells [(d.key, d.val)]) rfl ?_ (prCells_one _) ?_ ?_ ?_ ?_
                 · first | exact OW3.out | exact OW3.out.alloc _
                 · first | exact src_blk PB.out rfl | exact src_blk (Blk.new _ _ _) rfl
                 · have := PLn.out; omega
                 · have := PLn.out; omega
                 · have := BW3.out.size; first | exact this | (simp; omega)
                 intro v2 w4 own4 gr4 ob4
                 replace ob4 := (show v2.ownBlock = some _ ∨ v2.ownBlock = some _ from ob4)
                 rw [← prCells_append] at own4
                 obtain ⟨g2, cap2, rfl, _, _, _, _⟩ := own_some own4 (by rcases ob4 with h | h <;> rw [h] <;> simp)
                 have BW4 := Lib.hid (show Below w2.heap.size w2 w4 by
                   have hrow := fun k hk => (OW3.out.lt k hk).1
                   have := BW3.out.size
                   first
                   | exact BW3.out.grown gr4 this hrow
                   | exact (BW3.out.alloc this _).grown gr4 (by simp; omega) hrow)
                 have OW4 := Lib.hid own4
                 have K3 := Lib.hid (show w4.cell? ⟨wr.heap.size, 1, none⟩ = some (.int .i64 d.key) ∧ w4.cell? ⟨wr.heap.size, 2, none⟩ = some (.int .i64 d.val) from ⟨(BW4.out.cell (World.block_lt_of_cell? _ _ ha1)).trans ha1, (BW4.out.cell (World.block_lt_of_cell? _ _ ha2)).trans ha2⟩)
                 clear own4 gr4 ob4))
          all_goals
            clear K3 OW3 BW3
            try clear PB
            have R4 := Lib.hid (RowAt.step R0.out BW4.out)
            have OB4 := Lib.hid (OB.out.below BW4.out OB.out.lt)
            have BB4 := Lib.hid (BW.out.trans (BW4.out.mono BW.out.size))
            have hsz := Lib.hid (show w2.heap.size ≤ w4.heap.size from BW4.out.size)
            clear BW4 ha0 ha1 ha2 OW OB BW
          all_goals go_wp2_with (at_builtin; refine Hid.out ?_)
          all_goals delta Hid
          all_goals
            refine wpList_appT Try.underlying49 pr_info rfl (by omega) rfl (.tmp 48) (.tmp 51) rfl w2.heap.size _ (at' + 1) (prCells (L.take at' ++ [(d.key, d.val)])) rfl OW4.out _ _ _ (prCells (L.drop at')) rfl ?src (prCells_one _) ?l1 ?l2 hsz.out ?_
            case src => exact src_tail R4.out (by first | rfl | omega) (by first | exact .inl (add_at _ _).symm | (right; have := Rm.out; omega))
            case l1 => have := PLn.out; have := Len.out; omega
            case l2 => have := PLn.out; have := Len.out; omega
            intro v5 w5 own5 gr5 ob5
            replace ob5 := (show v5.ownBlock = some _ ∨ v5.ownBlock = some _ from ob5)
            obtain ⟨g5, cap5, rfl, _, _, _, _⟩ := own_some own5 (by rcases ob5 with h | h <;> rw [h] <;> simp)
            have b5 : Below w2.heap.size w4 w5 := (Below.refl _ _).grown gr5 hsz.out (fun k hk => (OW4.out.lt k hk).1)
            have F := Lib.hid (put_next Fin.out e1.out Gi.out (by have := Pd.out; omega) (by first | rfl | omega) own5)
            have W5 := Lib.hid (BB4.out.trans (b5.mono Bs.out))
            have O5 := Lib.hid (OB4.out.below b5 Ob.out)
            clear own5 gr5 ob5 b5 OB4 BB4
            go_wp2_with fail
            go_roundw
            case rel => obtain ⟨f1, f2⟩ := F.out; exact ⟨k + 1, g5, cap5, by omega, by go_num, by rw [f1], by rw [f1]; exact own_base (by first | exact f2 | (rw [f1] at f2; exact f2)) Wb.out, W5.out, O5.out⟩
            case measure => simp [intOf]; omega
        · by_cases h2 : d.op = 2
          · have e1 := Lib.hid (show step o L d = L by unfold step; rw [if_neg h1, if_pos h2, gd])
            rw [h2] at ha0
            clear h1 h2 gd
            go_wp2_with fail
            go_roundw
            case rel => exact ⟨k + 1, g, cap', by omega, by go_num, by rw [Fin.out, e1.out], by rw [Fin.out, e1.out]; exact OW.out, BW.out, OB.out⟩
            case measure => simp [intOf]; omega
          · by_cases h3 : d.op = 3
            · have e1 := Lib.hid (show step o L d = [] by unfold step; rw [if_neg h1, if_neg h2, if_pos h3])
              rw [h3] at ha0
              have F := Lib.hid (show (w2.alloc (.cells #[] 54)).ownsRow (w.heap.size + 1) 54 2 (.slice (some ⟨w2.heap.size, 0, none⟩) 0 0) 0 [] from own_empty' (Blk.newAt rfl _ _) Wb.out)
              clear h1 h2 h3 gd
              go_wp2_with fail
              go_roundw
              case rel => exact ⟨k + 1, w2.heap.size, 0, by omega, by go_num, by rw [Fin.out, e1.out]; rfl, by rw [Fin.out, e1.out]; exact F.out, BW.out.alloc Bs.out _, OB.out.alloc _⟩
              case measure => simp [intOf]; omega
            · have e1 := Lib.hid (show step o L d = L by unfold step; rw [if_neg h1, if_neg h2, if_neg h3])
              have g1 : (d.op == 1) = false := by simpa using h1
              have g2 : (d.op == 2) = false := by simpa using h2
              have g3 : (d.op == 3) = false := by simpa using h3
              clear h1 h2 h3 gd
              go_wp2_with fail
              go_roundw
              case rel => exact ⟨k + 1, g, cap', by omega, by go_num, by rw [Fin.out, e1.out], by rw [Fin.out, e1.out]; exact OW.out, BW.out, OB.out⟩
              case measure => simp [intOf]; omega
    · obtain rfl : k = n := by omega
      rw [List.take_of_length_le (by have := HN.out; omega)] at hown
      have F := Lib.hid (show wr.ownsRow _ _ _ _ _ _ ∧ Below _ _ _ from ⟨hown, hw⟩)
      have L0 : (List.take k acts).foldl (step o) [] = run o acts := by rw [List.take_of_length_le (by have := HN.out; omega)]; rfl
      rw [L0]
      clear hown hw hb L0
      go_wp2_with fail
      go_ret
      exact ⟨g, cap', rfl, own_base F.out.1 (Nat.le_succ _), F.out.2⟩

end Go.Proofs.Ytpkgmgebhnhhjaa
