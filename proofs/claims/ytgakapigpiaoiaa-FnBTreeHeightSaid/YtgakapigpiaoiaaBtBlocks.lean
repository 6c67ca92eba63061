import Derived.Test.YtgakapigpiaoiaaBtBld
import Derived.Deep.RegionLaw
namespace Go.Proofs.Ytgakapigpiaoiaa.Bt
open Go.RowKit Go.Proofs.Ytgakapigpiaoiaa
section
variable {B rt : Nat} {H : Hd} {o : Ord} {σ : Store} {α : Nat → Arr}
def UpOk (σ : Store) (i : Nat) (u : Int) : Prop := ∃ d, σ i = some d ∧ ((d.par = none ∧ u = -1) ∨ ∃ p a : Nat, d.par = some p ∧ u = (a : Int))
set_option maxHeartbeats 4000000 in
set_option maxRecDepth 100000 in
theorem blocks_walk (S : Shp σ rt) (hfe : ∀ i d, σ i = some d → d.es.length ≤ 1000) (Bo : Nat) : ∀ i d, σ i = some d → ∀ (w : World) (A : Option Addr) (cap n : Nat) (C : List Value) (u : Int), C.length = n * 5 → St w B H o σ α → w.ownsRow Bo 39 5 (.slice A n cap) n C → Bo ≤ w.heap.size → n + cnt σ i ≤ 100000 → UpOk σ i u →
    Calls Try.prog 16 #[.slice A n cap, .pointer (some ⟨i, 0, none⟩), .int .i64 u] w fun e w' => ∃ A' cap' C', e = .returned (.tuple #[.slice A' (n + cnt σ i) cap', .int .i64 n]) ∧
      w'.ownsRow Bo 39 5 (.slice A' (n + cnt σ i) cap') (n + cnt σ i) (C ++ C') ∧ BksAt w' w.heap.size (fun _ => True) C' (bks σ i n u) ∧ Only (blks A) w w' ∧ OwnIn w (blks A) A' := by
  refine lv_ind S fun i d h ih w A cap n C u hC s ow hBo hcn hup => ?_
  obtain ⟨d', h', hu⟩ := hup
  rw [h] at h'
  injection h' with h'
  subst h'
  have hne := hfe i d h
  have hnk : d.ks.length ≤ 1001 := by
    rcases Nat.eq_zero_or_pos d.lv with h0 | h0
    · rw [S.leaf i d h h0]; simp
    · rw [S.inner i d h h0]; omega
  have HC := Lib.hid (cnt_row S h)
  have HB := Lib.hid (bks_row (n := n) (u := u) S h)
  have HH := Lib.hid h
  have HS := Lib.hid s
  have HI := Lib.hid ih
  have OW := Lib.hid ow
  have HN := Lib.hid hcn
  have HU := Lib.hid hu
  have CL := Lib.hid hC
  have HO := Lib.hid hBo
  have SZ := Lib.hid (fun w1 (s1 : St w1 B H o σ α) => btNodeSize_walk S i d h w1 s1 (by omega))
  have hc1 := (s.cells h).2.1
  clear h ih s ow hcn hu hC hBo
  generalize hl1 : d.es.length = ne at *
  have HL1 := Lib.hid hl1
  clear hl1 hc1
  go_enter Try.func16, Try.ntmps16
  go_wp2_with fail
  have B0 := Lib.hid (show Below w.heap.size w (((w.alloc (.cells #[] 3)).alloc (.cells #[] 3)).alloc (.cells #[] 3)) from (((Below.refl _ _).alloc (Nat.le_refl _) _).alloc (by simp) _).alloc (by simp; omega) _)
  have R0 := Lib.hid (show Rows3 (((w.alloc (.cells #[] 3)).alloc (.cells #[] 3)).alloc (.cells #[] 3)) w.heap.size (some ⟨w.heap.size, 0, none⟩) 0 (some ⟨w.heap.size + 1, 0, none⟩) 0 (some ⟨w.heap.size + 1 + 1, 0, none⟩) 0 0 0 0 [] [] [] from
    ⟨own_empty (Blk.alloc (Blk.alloc (Blk.newAt rfl _ _) _) _) (Nat.le_refl _), own_empty (Blk.alloc (Blk.newAt (by simp) _ _) _) (by omega), own_empty (Blk.newAt (by simp) _ _) (by omega), fun a b ha hb => by injection ha with ha; injection hb with hb; subst ha hb; simp; try omega, fun a b ha hb => by injection ha with ha; injection hb with hb; subst ha hb; simp; try omega, fun a b ha hb => by injection ha with ha; injection hb with hb; subst ha hb; simp; try omega⟩)
  generalize ((w.alloc (.cells #[] 3)).alloc (.cells #[] 3)).alloc (.cells #[] 3) = w3 at *
  generalize some (⟨w.heap.size, 0, none⟩ : Addr) = K1 at *
  generalize some (⟨w.heap.size + 1, 0, none⟩ : Addr) = K2 at *
  generalize some (⟨w.heap.size + 1 + 1, 0, none⟩ : Addr) = K3 at *
  refine (SZ.out w3 (HS.out.below B0.out)).mono ?_
  rintro e w4 ⟨rfl, q, rfl⟩
  have B1 := Lib.hid (Below.drewN' B0.out q)
  have R1 := Lib.hid (show Rows3 (w3.drewN q) w.heap.size K1 0 K2 0 K3 0 0 0 0 [] [] [] from R0.out.other (S := []) ((Only.refl _ _).drewN q) (F := fun _ => True) (fun b hb => by simp at hb) (fun _ _ => trivial))
  clear B0 R0 SZ
  generalize w3.drewN q = w4 at *
  have F1 := Lib.hid (show Bld (w4.alloc (.cells #[.int .i64 u, .slice K1 0 0, .slice K2 0 0, .slice K3 0 0, .int .i64 (cnt σ i)] 39)) w.heap.size w4.heap.size u (cnt σ i) 0 0 K1 0 K2 0 K3 [] [] from
    ⟨Blk.new _ _ _, R1.out.other (S := []) ((Only.refl _ _).alloc _) (F := fun _ => True) (fun b hb => by simp at hb) (fun _ _ => trivial), B1.out.size⟩)
  have B2 := Lib.hid (B1.out.alloc B1.out.size (.cells #[.int .i64 u, .slice K1 0 0, .slice K2 0 0, .slice K3 0 0, .int .i64 (cnt σ i)] 39))
  have hc1 := ((HS.out.below (B1.out.alloc B1.out.size (.cells #[.int .i64 u, .slice K1 0 0, .slice K2 0 0, .slice K3 0 0, .int .i64 (cnt σ i)] 39))).cells HH.out).2.1
  rw [HL1.out] at hc1
  clear R1 B1
  go_wp2_with fail
  clear hc1
  generalize w4.alloc (.cells #[.int .i64 u, .slice K1 0 0, .slice K2 0 0, .slice K3 0 0, .int .i64 (cnt σ i)] 39) = w5 at *
  generalize w4.heap.size = gb at *
  go_loopw [32] (fun j wr => ∃ (k : Nat) (J1 : Option Addr) (c1 : Nat) (J2 : Option Addr) (c2 : Nat), k ≤ ne ∧ j = .int .i64 k ∧ Bld wr w.heap.size gb u (cnt σ i) k k J1 c1 J2 c2 K3 ((d.es.take k).map En.k) ((d.es.take k).map En.v) ∧ Below w.heap.size w wr) (fun j _ => ne - (intOf j).toNat)
  case atStart => exact ⟨0, K1, 0, K2, 0, Nat.zero_le _, rfl, F1.out, B2.out⟩
  case round =>
    obtain ⟨k, J1, c1, J2, c2, hk, rfl, f, b⟩ := hrel
    have F := Lib.hid f
    have BB := Lib.hid b
    by_cases hlt : k < ne
    · obtain ⟨en, hen⟩ : ∃ en, d.es[k]? = some en := ⟨_, List.getElem?_eq_getElem (by rw [HL1.out]; exact hlt)⟩
      obtain ⟨g, hA, hge, _, he0, he1⟩ := (HS.out.below b).ent HH.out hen
      have HEN := Lib.hid hen
      have hb1 : wr.cell? ⟨gb, 1, none⟩ = some (.slice J1 k c1) := f.blk.cell 1
      have hbf := f.blk.frozen
      clear f b F1 B2 hen he1
      try rw [hA]
      clear hA
      go_wp2_with fail
      have hbA : (wr.alloc (.cells #[.int .i64 en.k] 3)).cell? ⟨gb, 1, none⟩ = some (.slice J1 k c1) := (F.out.alloc _).blk.cell 1
      go_region_law
        (first
        | (have FD := Lib.hid (Bld.drew (F.out.alloc (.cells #[.int .i64 en.k] 3)))
           refine step_app (t := 28) (e := 3) (z := .int .i64 0) (size := 1) (bytes := 8) Try.underlying28 int_info rfl (by omega) rfl (.tmp 37) (.tmp 43) rfl w.heap.size (.slice J1 k c1) k (intRow ((d.es.take k).map En.k)) rfl FD.out.rows.o1 (some ⟨wr.heap.size, 0, none⟩) 1 1 (intRow [en.k]) rfl (src_blk (Blk.drew (Blk.new _ _ _)) rfl) (intRow_one _) (by omega) (by omega) (by have := BB.out.size; simp; omega) ?_
           intro v1 w3 own3 gr3 ob3
           rw [← intRow_append] at own3
           obtain ⟨A5, c5, rfl, _, _⟩ := own_slice own3
           have P3 := Lib.hid (FD.out.push1 en.k own3 gr3 ob3)
           have Q3 := Lib.hid (FD.out.far1 (Nat.le_refl _) (by have := BB.out.size; simp; omega) gr3 (.slice A5 (k + 1) c5))
           have SB3 := Lib.hid (FD.out.at1 gr3)
           have hsb3 := SB3.out.cell 1
           have hsf3 := SB3.out.frozen 1
           clear own3 gr3 ob3 FD))
      all_goals
        have F4 := Lib.hid P3.out
        have B4 := Lib.hid (BB.out.trans ((((Below.refl _ _).alloc BB.out.size (.cells #[.int .i64 en.k] 3)).drew).trans Q3.out))
        obtain ⟨_, _, _, _, _, he1⟩ := (HS.out.below B4.out).ent HH.out HEN.out
        clear P3 Q3 SB3 hsb3 hsf3 hbA hb1 hbf he0 F BB
        generalize w3.setCell ⟨gb, 1, none⟩ (.slice A5 (k + 1) c5) = w6 at *
        have hb2 : w6.cell? ⟨gb, 2, none⟩ = some (.slice J2 k c2) := F4.out.blk.cell 2
        have hbf := F4.out.blk.frozen
        have hbA : (w6.alloc (.cells #[.int .i64 en.v] 3)).cell? ⟨gb, 2, none⟩ = some (.slice J2 k c2) := (F4.out.alloc _).blk.cell 2
        go_wp2_with fail
      all_goals
        go_region_law
          (first
          | (have FD := Lib.hid (Bld.drew (F4.out.alloc (.cells #[.int .i64 en.v] 3)))
             refine step_app (t := 28) (e := 3) (z := .int .i64 0) (size := 1) (bytes := 8) Try.underlying28 int_info rfl (by omega) rfl (.tmp 47) (.tmp 53) rfl w.heap.size (.slice J2 k c2) k (intRow ((d.es.take k).map En.v)) rfl FD.out.rows.o2 (some ⟨w6.heap.size, 0, none⟩) 1 1 (intRow [en.v]) rfl (src_blk (Blk.drew (Blk.new _ _ _)) rfl) (intRow_one _) (by omega) (by omega) (by have := B4.out.size; simp; omega) ?_
             intro v1 w7 own7 gr7 ob7
             rw [← intRow_append] at own7
             obtain ⟨A6, c6, rfl, _, _⟩ := own_slice own7
             have P7 := Lib.hid (FD.out.push2 en.v own7 gr7 ob7)
             have Q7 := Lib.hid (FD.out.far2 (Nat.le_refl _) (by have := B4.out.size; simp; omega) gr7 (.slice A6 (k + 1) c6))
             have SB7 := Lib.hid (FD.out.at2 gr7)
             have hsb7 := SB7.out.cell 2
             have hsf7 := SB7.out.frozen 2
             clear own7 gr7 ob7 FD))
      all_goals
        have F8 := Lib.hid P7.out
        have B8 := Lib.hid (B4.out.trans ((((Below.refl _ _).alloc B4.out.size (.cells #[.int .i64 en.v] 3)).drew).trans Q7.out))
        clear P7 Q7 SB7 hsb7 hsf7 hbA hb2 hbf he1 F4 B4
        generalize w7.setCell ⟨gb, 2, none⟩ (.slice A6 (k + 1) c6) = w8 at *
        go_wp2_with fail
        go_roundw
        case rel =>
          refine ⟨k + 1, A5, c5, A6, c6, by omega, by go_num, ?_, B8.out⟩
          rw [List.take_add_one, HEN.out]
          simpa using F8.out
        case measure => simp [intOf]; omega
    · obtain rfl : k = ne := by omega
      rw [List.take_of_length_le (by rw [HL1.out]; exact Nat.le_refl _)] at f
      have hpar := ((HS.out.below b).cells HH.out).1
      have hks := ((HS.out.below b).cells HH.out).2.2.1
      have hb0 : wr.cell? ⟨gb, 0, none⟩ = some (.int .i64 u) := f.blk.cell 0
      have hb1 : wr.cell? ⟨gb, 1, none⟩ = some (.slice J1 k c1) := f.blk.cell 1
      have hb2 : wr.cell? ⟨gb, 2, none⟩ = some (.slice J2 k c2) := f.blk.cell 2
      have hb3 : wr.cell? ⟨gb, 3, none⟩ = some (.slice K3 0 0) := f.blk.cell 3
      have hb4 : wr.cell? ⟨gb, 4, none⟩ = some (.int .i64 (cnt σ i)) := f.blk.cell 4
      have F := Lib.hid f
      clear F1 B2
      rcases HU.out with ⟨hp, hu1⟩ | ⟨p, a, hp, hu1⟩
      all_goals
        rw [hp] at hpar
        simp only [ptr, Option.map_none, Option.map_some] at hpar
        first
        | (have hun : u < 0 := by omega
           clear hu1)
        | (have hun : ¬ u < 0 := by omega
           clear hu1)
        clear hp f b
        go_wp2_with (at_builtin; refine Hid.out ?_)
      all_goals
        delta Hid
        refine wpList_appT Try.underlying26 bk_info rfl (by omega) rfl _ _ rfl Bo (.slice A n cap) n C rfl (own_below OW.out (BB.out.alloc BB.out.size _)) (some ⟨wr.heap.size, 0, none⟩) 1 1 [.int .i64 u, .slice J1 k c1, .slice J2 k c2, .slice K3 0 0, .int .i64 (cnt σ i)] rfl (src_blk (Blk.newAt rfl _ _) rfl) (by simp [Value.oneCell']) (by have := HN.out; have := HC.out; omega) (by have := HN.out; have := HC.out; omega) (by have := HO.out; have := BB.out.size; simp; omega) ?_
        intro v1 wa owna gra oba
        obtain ⟨A3, cap3, rfl, _, _⟩ := own_slice owna
        have KS := Lib.hid (F.out.start HL1.out BB.out _ CL.out OW.out owna gra oba)
        clear owna gra oba F hb0 hb1 hb2 hb3 hb4 hpar
        have hks := ((HS.out.told OW.out KS.out.on).cells HH.out).2.2.1
        generalize hl2 : d.ks.length = nk at *
        have HL2 := Lib.hid hl2
        clear hl2
        go_wp2_with fail
        clear hks
        go_loopw [0, 75] (fun v j wk => ∃ (m : Nat) (Ak : Option Addr) (capk qq : Nat) (Ck : List Value) (J3 : Option Addr) (c3 : Nat), m ≤ nk ∧ j = .int .i64 m ∧ v = .slice Ak qq capk ∧ qq = n + 1 + ((d.ks.take m).map (cnt σ)).sum ∧
          Kids w wk Bo A Ak capk qq n C Ck ⟨u, d.es.map En.k, d.es.map En.v, posB (cnt σ) (n + 1) (d.ks.take m), (cnt σ i : Int)⟩ J1 c1 J2 c2 J3 c3 (rowB (bks σ) (cnt σ) n (n + 1) (d.ks.take m))) (fun _ j _ => nk - (intOf j).toNat)
        case atStart => exact ⟨0, A3, cap3, n + 1, [], K3, 0, Nat.zero_le _, rfl, rfl, by simp, KS.out⟩
        case round =>
          obtain ⟨m, Ak, capk, qq, Ck, J3, c3, hm, rfl, rfl, hqq, kk⟩ := hrel
          have KK := Lib.hid kk
          have HQ := Lib.hid hqq
          clear hqq KS
          by_cases hlt : m < nk
          · obtain ⟨c, hkc⟩ : ∃ c, d.ks[m]? = some c := ⟨_, List.getElem?_eq_getElem (by rw [HL2.out]; exact hlt)⟩
            have sk := HS.out.told OW.out kk.on
            obtain ⟨g, hA, hg, _⟩ := sk.kid HH.out hkc
            have hmc : c ∈ d.ks := List.mem_of_getElem? hkc
            obtain ⟨cd, hcd, hcp, _⟩ := S.kid i d c HH.out hmc
            have e1 := sum_take (cnt σ) d.ks hkc
            have e2 := sum_take_le (cnt σ) d.ks (m + 1)
            have e3 := HC.out
            have e4 := HN.out
            have hl5 : (C ++ (bkVals ⟨u, d.es.map En.k, d.es.map En.v, posB (cnt σ) (n + 1) (d.ks.take m), (cnt σ i : Int)⟩ J1 c1 J2 c2 J3 c3 ++ Ck)).length = qq * 5 := kk.own.1
            have CC := Lib.hid (HI.out c hmc _ Ak capk qq _ (n : Int) hl5 sk kk.own (by have := HO.out; have := kk.on.size; omega) (by have := HQ.out; omega) ⟨cd, hcd, .inr ⟨i, n, hcp, rfl⟩⟩)
            have HTK := Lib.hid (show d.ks.take (m + 1) = d.ks.take m ++ [c] by rw [List.take_add_one, hkc]; rfl)
            have HE1 := Lib.hid e1
            have QB := Lib.hid (show qq + cnt σ c ≤ 100000 by have := HQ.out; omega)
            have HPL := Lib.hid (show (posB (cnt σ) (n + 1) (d.ks.take m)).length = m by rw [posB_length, List.length_take, HL2.out]; omega)
            clear e1 e2 e3 e4 hl5 sk hmc hcd hcp hkc kk
            try rw [hA]
            clear hA
            go_wp2_with fail
            refine CC.out.mono ?_
            rintro e w2 ⟨A4, cap4, C4, rfl, own4, low4, on4, oi4⟩
            have K4 := Lib.hid (KK.out.kid own4 low4 on4 oi4)
            obtain ⟨A4', cap4', e4, hnn, hso⟩ := own_slice own4
            injection e4 with e41 _ e43
            subst e41 e43
            have hpos : 1 ≤ qq := by have := HQ.out; omega
            obtain ⟨g4, rfl⟩ : ∃ g4, A4 = some ⟨g4, 0, none⟩ := by
              cases A4 with
              | none => have := (hnn rfl).1; omega
              | some a => obtain ⟨h1, h2⟩ := hso a rfl; exact ⟨a.block, by cases a; simp_all⟩
            have hnq : n < qq + cnt σ c := by have := HQ.out; omega
            obtain ⟨h3, hf3⟩ := K4.out.cell3 rfl hnq HPL.out
            clear own4 low4 on4 oi4 CC KK hnn hso
            go_wp2_with (at_builtin; refine Hid.out ?_)
            delta Hid
            refine wpList_appT Try.underlying28 int_info rfl (by omega) rfl _ _ rfl w.heap.size (.slice J3 m c3) m (intRow (posB (cnt σ) (n + 1) (d.ks.take m))) rfl ((K4.out.alloc _).row3 HPL.out) (some ⟨w2.heap.size, 0, none⟩) 1 1 (intRow [(qq : Int)]) rfl (src_blk (Blk.newAt rfl _ _) rfl) (intRow_one _) (by have := QB.out; omega) (by have := QB.out; omega) (by have := K4.out.on.size; simp; omega) ?_
            intro v1 w5 own5 gr5 ob5
            rw [← intRow_append] at own5
            obtain ⟨A5, c5, rfl, _, _⟩ := own_slice own5
            have K6 := Lib.hid ((K4.out.alloc _).push' (qq : Int) HPL.out rfl own5 gr5 ob5)
            obtain ⟨h5, hf5⟩ := (K4.out.alloc _).cell3g rfl hnq HPL.out gr5
            clear own5 gr5 ob5 h3 hf3 K4
            go_wp2_with fail
            go_roundw
            case rel =>
              refine ⟨m + 1, some ⟨g4, 0, none⟩, cap4, qq + cnt σ c, Ck ++ C4, A5, c5, by omega, by go_num, rfl, ?_, ?_⟩
              · rw [HE1.out]; have := HQ.out; omega
              · rw [HTK.out, posB_append, rowB_append]
                simp only [posB, rowB, List.append_nil]
                rw [← HQ.out]
                exact K6.out
            case measure => simp [intOf]; omega
          · obtain rfl : m = nk := by omega
            rw [List.take_of_length_le (by rw [HL2.out]; exact Nat.le_refl _)] at kk
            have hqn := HQ.out
            rw [List.take_of_length_le (by rw [HL2.out]; exact Nat.le_refl _)] at hqn
            have hqn2 : qq = n + cnt σ i := by rw [hqn, HC.out]; omega
            have K9 := Lib.hid kk
            have HQ9 := Lib.hid hqn2
            clear kk hqn hqn2 KK
            go_wp2_with fail
            go_ret2
            rw [← HQ9.out, HB.out]
            exact ⟨Ak, capk, _, rfl, own_keep K9.out.own fun _ _ _ => rfl, K9.out.done, K9.out.on, K9.out.oi⟩
end
end Go.Proofs.Ytgakapigpiaoiaa.Bt
