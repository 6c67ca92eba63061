import Derived.Test.YtjjolokeceldmaaGreatBtIter
namespace Go.Proofs.YtjjolokeceldmaaGreat.Bt
open Go.RowKit Lib Go.Proofs.YtjjolokeceldmaaGreat
section
variable {m : Int} {o : Ord} {B tb x itb i rt : Nat} {w w' : World} {H : Hd} {σ : Store} {α : Nat → Arr} {l : KV} {d : ND} {L R : KV} {e : En}
set_option maxRecDepth 100000 in
theorem itPrev_none (h : BtAt m o B w H σ α []) (hb : Blk w itb 57 (itC H.tb none none 2)) :
 Calls Tryz.prog 150 #[.pointer (some ⟨itb, 0, none⟩)] w (Out w itb H.tb 0) := by
 have C := hid (btRight_none h)
 have CE := hid (itBegin_walk hb)
 have hc0 : w.cell? ⟨itb, 0, none⟩ = some (.pointer (some ⟨H.tb, 0, none⟩)) := hb.cell 0
 have hc1 : w.cell? ⟨itb, 1, none⟩ = some (.pointer none) := hb.cell 1
 have hc2 : w.cell? ⟨itb, 2, none⟩ = some (.pointer none) := hb.cell 2
 have hc3 : w.cell? ⟨itb, 3, none⟩ = some (.int .u8 2) := hb.cell 3
 have hf := hb.frozen
 clear hb h
 go_enter Tryz.func150, Tryz.ntmps150
 go_wp2_with fail
 refine wp_scope_once 0 rfl ?_
 go_wp2_with fail
 refine C.out.mono ?_
 rintro e w' ⟨rfl, rfl⟩
 clear C
 go_wp2_with fail
 try go_step3
 refine And.intro rfl ?_
 show Code.wp _ _ _ _ _
 go_wp2_with fail
 try go_step3
 go_wp2_with fail
 refine CE.out.mono ?_
 rintro e w' ⟨rfl, F⟩
 have F := hid F
 clear CE
 go_wp2_with fail
 try rw [Exit.noGoto_ret]
 go_ret
 exact ⟨rfl, F.out⟩
set_option maxRecDepth 100000 in
theorem itPrev_over (hb : Blk w itb 57 (itC H.tb none none 0)) :
 Calls Tryz.prog 150 #[.pointer (some ⟨itb, 0, none⟩)] w (Out w itb H.tb 0) := by
 have CE := hid (itBegin_walk hb)
 have hc0 : w.cell? ⟨itb, 0, none⟩ = some (.pointer (some ⟨H.tb, 0, none⟩)) := hb.cell 0
 have hc1 : w.cell? ⟨itb, 1, none⟩ = some (.pointer none) := hb.cell 1
 have hc2 : w.cell? ⟨itb, 2, none⟩ = some (.pointer none) := hb.cell 2
 have hc3 : w.cell? ⟨itb, 3, none⟩ = some (.int .u8 0) := hb.cell 3
 have hf := hb.frozen
 clear hb
 go_enter Tryz.func150, Tryz.ntmps150
 go_wp2_with fail
 refine wp_scope_once 0 rfl ?_
 go_wp2_with fail
 try go_step3
 refine And.intro rfl ?_
 show Code.wp _ _ _ _ _
 go_wp2_with fail
 try go_step3
 go_wp2_with fail
 refine CE.out.mono ?_
 rintro e w' ⟨rfl, F⟩
 have F := hid F
 clear CE
 go_wp2_with fail
 try rw [Exit.noGoto_ret]
 go_ret
 exact ⟨rfl, F.out⟩
set_option maxHeartbeats 2000000 in
set_option maxRecDepth 100000 in
theorem itPrev_start (h : BtAt m o B w H σ α l) (hr : H.root = some rt) (S : Shp σ rt) (hz : H.size ≠ 0) (hfit : Fit σ H.m rt) (hb : Blk w itb 57 (itC H.tb none none 2)) :
 Calls Tryz.prog 150 #[.pointer (some ⟨itb, 0, none⟩)] w (HitR w itb H.tb σ rt []) := by
 have C := hid (btRight_some h hr S hz hfit)
 have hc0 : w.cell? ⟨itb, 0, none⟩ = some (.pointer (some ⟨H.tb, 0, none⟩)) := hb.cell 0
 have hc1 : w.cell? ⟨itb, 1, none⟩ = some (.pointer none) := hb.cell 1
 have hc2 : w.cell? ⟨itb, 2, none⟩ = some (.pointer none) := hb.cell 2
 have hc3 : w.cell? ⟨itb, 3, none⟩ = some (.int .u8 2) := hb.cell 3
 have hf := hb.frozen
 have HH := hid h
 have SS := hid S
 have HF := hid hfit
 have HB := hid hb
 clear hb h S hz hfit hr
 go_enter Tryz.func150, Tryz.ntmps150
 go_wp2_with fail
 refine wp_scope_once 1 rfl ?_
 go_wp2_with fail
 refine C.out.mono ?_
 rintro e w' ⟨j, rfl, hj, on⟩
 clear C hc0 hc1 hc2 hc3 hf
 have h := HH.out
 have S := SS.out
 have hfit := HF.out
 have hm6 := h.m3
 have hb : Blk w' itb 57 _ := HB.out.only on (by simp)
 have hc0 : w'.cell? ⟨itb, 0, none⟩ = some (.pointer (some ⟨H.tb, 0, none⟩)) := hb.cell 0
 have hc1 : w'.cell? ⟨itb, 1, none⟩ = some (.pointer none) := hb.cell 1
 have hc2 : w'.cell? ⟨itb, 2, none⟩ = some (.pointer none) := hb.cell 2
 have hc3 : w'.cell? ⟨itb, 3, none⟩ = some (.int .u8 2) := hb.cell 3
 have hf := hb.frozen
 have s1 := h.st.same on
 obtain ⟨dl, hl⟩ : ∃ dl, σ j = some dl := by obtain ⟨r, hr, _⟩ := S.root; obtain ⟨dl, _, hl, _⟩ := hj.ctxt S _ _ (Ctxt.root S); exact ⟨dl, hl⟩
 obtain ⟨ea, f, hla⟩ : ∃ ea f, dl.es = ea ++ [f] := by
  rcases List.eq_nil_or_concat dl.es with hh | ⟨ea, f, hh⟩
  ·have := (hfit j dl hl).2.2; rw [hh] at this; simp at this
  ·exact ⟨ea, f, by simpa using hh⟩
 have hla0 : dl.es[dl.es.length - 1]? = some f := by rw [hla]; simp
 obtain ⟨X', sp⟩ := last_spot S hj hl hla
 have o1 : Only [itb] w' (w'.setCell ⟨itb, 1, none⟩ (.pointer (some ⟨j, 0, none⟩))) := (Only.refl _ _).setCell (.inl (by simp)) _
 have b1 := itSetN hb (some j)
 have s2 := s1.it hb o1
 simp only [ptr, Option.map_some] at b1
 have nc0 : (w'.setCell ⟨itb, 1, none⟩ (.pointer (some ⟨j, 0, none⟩))).cell? ⟨itb, 0, none⟩ = some (.pointer (some ⟨H.tb, 0, none⟩)) := b1.cell 0
 have nc1 : (w'.setCell ⟨itb, 1, none⟩ (.pointer (some ⟨j, 0, none⟩))).cell? ⟨itb, 1, none⟩ = some (.pointer (some ⟨j, 0, none⟩)) := b1.cell 1
 have nc2 : (w'.setCell ⟨itb, 1, none⟩ (.pointer (some ⟨j, 0, none⟩))).cell? ⟨itb, 2, none⟩ = some (.pointer none) := b1.cell 2
 have nc3 : (w'.setCell ⟨itb, 1, none⟩ (.pointer (some ⟨j, 0, none⟩))).cell? ⟨itb, 3, none⟩ = some (.int .u8 2) := b1.cell 3
 have nf := b1.frozen
 obtain ⟨g, hg, hgc, _⟩ := s2.ent hl hla0
 have hl1 := (s2.cells hl).2.1
 rw [hg] at hl1
 have hlen := (hfit j dl hl).2.2
 have hlen6 : dl.es.length ≤ 64 := by have h1 := (hfit j dl hl).1; have h2 := hm6; omega
 have ib0 : (0 : Int) < (dl.es.length : Int) := by omega
 have ib1 : 0 < dl.es.length := by omega
 have ib2 : ¬ dl.es.length = 0 := by omega
 have ib3 : (1 : Int) ≤ (dl.es.length : Int) := by omega
 have ib4 : (0 : Int) ≤ (dl.es.length : Int) - 1 := by omega
 have ib5 : (dl.es.length : Int) - 1 < (dl.es.length : Int) := by omega
 have ib6 : ((dl.es.length : Int) - 1).toNat = dl.es.length - 1 := by omega
 have ib7 : IntKind.i64.wrap ((dl.es.length : Int) - 1) = (dl.es.length : Int) - 1 := IntWalk.i64_in _ (by omega)
 have hon2 : Only [itb] w w' := on.mono (by simp)
 have HSP := hid sp
 have HBW := hid b1
 have HOW := hid (hon2.trans o1)
 clear hb h S hfit s1 s2 b1 o1 hg hla sp hj hl hlen on hon2 hm6 hla0
 generalize dl.es.length = nl at *
 go_wp2_with fail
 clear hc0 hc1 hc2 hc3 hf
 generalize w'.setCell ⟨itb, 1, none⟩ (.pointer (some ⟨j, 0, none⟩)) = w2 at *
 go_still_tail 13, (by kernel_rfl)
 change wpList _ _ _ _ _ w2.drew
 have a0 : w2.drew.cell? ⟨itb, 0, none⟩ = _ := nc0
 have a1 : w2.drew.cell? ⟨itb, 1, none⟩ = _ := nc1
 have a2 : w2.drew.cell? ⟨itb, 2, none⟩ = _ := nc2
 have a3 : w2.drew.cell? ⟨itb, 3, none⟩ = _ := nc3
 have a4 : ∀ k, w2.drew.frozen? ⟨itb, k, none⟩ = false := nf
 have HB9 := hid (show Blk w2.drew itb 57 _ from HBW.out)
 have HO9 := hid (HOW.out.trans (show Only [itb] w2 w2.drew from ⟨rfl, rfl, rfl, Nat.le_refl _, fun _ _ _ => rfl⟩))
 clear nc0 nc1 nc2 nc3 nf
 clear hgc hl1 HBW HOW
 generalize w2.drew = w3 at *
 have FIN := hid (show HitR w itb H.tb σ rt [] (.returned (.bool true)) ((w3.setCell ⟨itb, 2, none⟩ (.pointer (some ⟨f.b, 0, none⟩))).setCell ⟨itb, 3, none⟩ (.int .u8 1)) from ⟨rfl, j, f, _, HSP.out, itPos (itSetE HB9.out (some f.b)) 1, (HO9.out.setCell (.inl (by simp)) _).setCell (.inl (by simp)) _⟩)
 clear HSP HB9 HO9
 go_wp2_with fail
 try go_step3
 refine And.intro rfl ?_
 show Code.wp _ _ _ _ _
 go_wp2_with fail
 try go_step3
 go_wp2_with fail
 try rw [Exit.noGoto_ret]
 go_ret
 exact FIN.out
set_option maxHeartbeats 4000000 in
set_option maxRecDepth 100000 in
theorem itPrev_down (h : BtAt m o B w H σ α l) (S : Shp σ rt) (ha : Asc o (nk σ rt)) (hfit : Fit σ H.m rt) {n c : Nat} {L0 R0 : KV} (hi : σ i = some d) (he : d.es[n]? = some e) (hc : d.ks[n]? = some c) (cx : Ctxt σ rt i L0 R0) (hb : Blk w itb 57 (itC H.tb (some i) (some e.b) 1)) :
 Calls Tryz.prog 150 #[.pointer (some ⟨itb, 0, none⟩)] w (HitR w itb H.tb σ rt (e.kv :: (rowKvs (nk σ) (d.ks.drop (n + 1)) (d.es.drop (n + 1)) ++ R0))) := by
 have hn6 : d.es.length ≤ 64 := by have h1 := (hfit i d hi).1; have h2 := h.m3; omega
 have CS := hid (fun (wx : World) (sx : St wx B H o σ α) => search_q sx h.fine hi (S.ascE hi ha) (by omega) e.k (rank_own (S.ascE hi ha) he) rfl)
 have hn := (List.getElem?_eq_some_iff.1 he).1
 have hkn := (List.getElem?_eq_some_iff.1 hc).1
 have hkl : d.ks.length ≤ 65 := by
  obtain ⟨_, _, _, hl⟩ := S.kid i d c hi (List.mem_of_getElem? hc)
  have := S.inner i d hi (by omega); omega
 obtain ⟨dc, hdc, _, _⟩ := S.kid i d c hi (List.mem_of_getElem? hc)
 have SP := hid (fun (j : Nat) (dl : ND) (f : En) (hj : RFar σ c j) (hl : σ j = some dl) => fun (ea : List En) (hla : dl.es = ea ++ [f]) => prev_down S hi he cx hc hj hl hla)
 have hek := (h.st.en i d e hi (List.mem_of_getElem? he)).1.cell 0
 have hc0 : w.cell? ⟨itb, 0, none⟩ = some (.pointer (some ⟨H.tb, 0, none⟩)) := hb.cell 0
 have hc1 : w.cell? ⟨itb, 1, none⟩ = some (.pointer (some ⟨i, 0, none⟩)) := hb.cell 1
 have hc2 : w.cell? ⟨itb, 2, none⟩ = some (.pointer (some ⟨e.b, 0, none⟩)) := hb.cell 2
 have hc3 : w.cell? ⟨itb, 3, none⟩ = some (.int .u8 1) := hb.cell 3
 have hf := hb.frozen
 have HH := hid h
 have SS := hid S
 have HF := hid hfit
 have HB := hid hb
 have HI := hid hi
 have HC := hid hc
 have HDC := hid hdc
 generalize hit o e.k d.es = hv at *
 generalize hLE : (e.kv :: (rowKvs (nk σ) (d.ks.drop (n + 1)) (d.es.drop (n + 1)) ++ R0)) = LE at *
 have in0 : (0 : Int) ≤ (n : Int) := by omega
 have in1 : (0 : Int) ≤ (n : Int) + 1 := by omega
 have in2 : ((n : Int) + 1).toNat = n + 1 := by omega
 have in3 : IntKind.i64.wrap ((n : Int) + 1) = (n : Int) + 1 := IntWalk.i64_in _ (by omega)
 have in4 : ((n : Nat) : Int) < (d.ks.length : Int) := by omega
 have in5 : decide ((n : Int) < (d.ks.length : Int)) = true := decide_eq_true (by omega)
 generalize hnk : d.ks.length = nk0 at *
 have HNK := hid hnk
 clear hb h S hfit hi he hc hdc hkn cx ha hn hLE hnk
 go_enter Tryz.func150, Tryz.ntmps150
 go_wp2_with fail
 refine wp_scope_once 1 rfl ?_
 go_wp2_with fail
 go_quiet ((go_at_call 120; exact Calls.quiet_of (CS.out _ (HH.out.st.drewN _))))
 have s1 := HH.out.st.drewN nq
 have hb1 : Blk (w.drewN nq) itb 57 _ := HB.out
 have HO1 := hid (show Only [itb] w (w.drewN nq) from ⟨rfl, rfl, rfl, Nat.le_refl _, fun _ _ _ => rfl⟩)
 clear CS hc0 hc1 hc2 hc3 hf hek
 generalize w.drewN nq = w1 at *
 have hc0 : w1.cell? ⟨itb, 0, none⟩ = some (.pointer (some ⟨H.tb, 0, none⟩)) := hb1.cell 0
 have hc1 : w1.cell? ⟨itb, 1, none⟩ = some (.pointer (some ⟨i, 0, none⟩)) := hb1.cell 1
 have hc2 : w1.cell? ⟨itb, 2, none⟩ = some (.pointer (some ⟨e.b, 0, none⟩)) := hb1.cell 2
 have hc3 : w1.cell? ⟨itb, 3, none⟩ = some (.int .u8 1) := hb1.cell 3
 have hf := hb1.frozen
 have hi2 := (s1.cells HI.out).2.2.1
 obtain ⟨gk, hgk, hgkc, _⟩ := s1.kid HI.out HC.out
 rw [hgk, HNK.out] at hi2
 have HB1 := hid hb1
 have HS1 := hid s1
 clear s1 hb1 hgk
 go_wp2_with fail
 go_loopg [] (dc.lv + 1) (fun g wr => ∃ (j : Nat) (dl : ND), Blk wr itb 57 (itC H.tb (some j) (some e.b) 1) ∧ Only [itb] w wr ∧ St wr B H o σ α ∧ σ j = some dl ∧ dl.lv < g ∧ ∀ y, RFar σ j y → RFar σ c y)
 case atStart =>
  have o1 : Only [itb] w1 (w1.setCell ⟨itb, 1, none⟩ (.pointer (some ⟨c, 0, none⟩))) := (Only.refl _ _).setCell (.inl (by simp)) _
  exact ⟨c, dc, itSetN HB1.out (some c), HO1.out.trans o1, HS1.out.it HB1.out o1, HDC.out, by omega, fun _ hj => hj⟩
 case round =>
  clear hc0 hc1 hc2 hc3 hf hi2 hgkc in4 in5
  obtain ⟨j, dl, hb, on, s, hl, hg, hfar⟩ := hrel
  have hc0 : wr.cell? ⟨itb, 0, none⟩ = some (.pointer (some ⟨H.tb, 0, none⟩)) := hb.cell 0
  have hc1 : wr.cell? ⟨itb, 1, none⟩ = some (.pointer (some ⟨j, 0, none⟩)) := hb.cell 1
  have hc2 : wr.cell? ⟨itb, 2, none⟩ = some (.pointer (some ⟨e.b, 0, none⟩)) := hb.cell 2
  have hc3 : wr.cell? ⟨itb, 3, none⟩ = some (.int .u8 1) := hb.cell 3
  have hf := hb.frozen
  have hfit := HF.out
  have hm6 := HH.out.m3
  obtain ⟨ea, f, hla⟩ : ∃ ea f, dl.es = ea ++ [f] := by
   rcases List.eq_nil_or_concat dl.es with hh | ⟨ea, f, hh⟩
   ·have := (hfit j dl hl).2.2; rw [hh] at this; simp at this
   ·exact ⟨ea, f, by simpa using hh⟩
  have hla0 : dl.es[dl.es.length - 1]? = some f := by rw [hla]; simp
  have hlen := (hfit j dl hl).2.2
  have hlen6 : dl.es.length ≤ 64 := by have h1 := (hfit j dl hl).1; have h2 := hm6; omega
  have ib0 : (0 : Int) < (dl.es.length : Int) := by omega
  have ib1 : 0 < dl.es.length := by omega
  have ib2 : ¬ dl.es.length = 0 := by omega
  have ib3 : (1 : Int) ≤ (dl.es.length : Int) := by omega
  have ib4 : (0 : Int) ≤ (dl.es.length : Int) - 1 := by omega
  have ib5 : (dl.es.length : Int) - 1 < (dl.es.length : Int) := by omega
  have ib6 : ((dl.es.length : Int) - 1).toNat = dl.es.length - 1 := by omega
  have ib7 : IntKind.i64.wrap ((dl.es.length : Int) - 1) = (dl.es.length : Int) - 1 := IntWalk.i64_in _ (by omega)
  have hl2 := (s.cells hl).2.2.1
  rcases Nat.eq_zero_or_pos dl.lv with h0 | h0
  ·have hk := SS.out.leaf j dl hl h0
   obtain ⟨X', sp⟩ := SP.out j dl f (hfar j (.leaf hl hk)) hl ea hla
   obtain ⟨gx, hgx, hgc, _⟩ := s.ent hl hla0
   have hl1 := (s.cells hl).2.1
   rw [hgx] at hl1
   rw [hk] at hl2
   simp only [List.length_nil] at hl2
   have HSP := hid sp
   have HBW := hid hb
   have HOW := hid on
   clear hb on s hl hg hfar hfit hm6 hla hlen h0 hk sp hgx hla0
   generalize dl.es.length = nl at *
   go_wp2_with fail
   go_still_tail 19, (by kernel_rfl)
   change wpList _ _ _ _ _ wr.drew
   have a0 : wr.drew.cell? ⟨itb, 0, none⟩ = _ := hc0
   have a1 : wr.drew.cell? ⟨itb, 1, none⟩ = _ := hc1
   have a2 : wr.drew.cell? ⟨itb, 2, none⟩ = _ := hc2
   have a3 : wr.drew.cell? ⟨itb, 3, none⟩ = _ := hc3
   have a4 : ∀ k, wr.drew.frozen? ⟨itb, k, none⟩ = false := hf
   have HB9 := hid (show Blk wr.drew itb 57 _ from HBW.out)
   have HO9 := hid (HOW.out.trans (show Only [itb] wr wr.drew from ⟨rfl, rfl, rfl, Nat.le_refl _, fun _ _ _ => rfl⟩))
   clear hc0 hc1 hc2 hc3 hf
   clear hgc hl1 hl2 HBW HOW
   generalize wr.drew = w3 at *
   have FIN := hid (show HitR w itb H.tb σ rt LE (.returned (.bool true)) ((w3.setCell ⟨itb, 2, none⟩ (.pointer (some ⟨f.b, 0, none⟩))).setCell ⟨itb, 3, none⟩ (.int .u8 1)) from ⟨rfl, j, f, _, HSP.out, itPos (itSetE HB9.out (some f.b)) 1, (HO9.out.setCell (.inl (by simp)) _).setCell (.inl (by simp)) _⟩)
   clear HSP HB9 HO9
   go_wp2_with fail
   try go_step3
   refine And.intro rfl ?_
   show Code.wp _ _ _ _ _
   go_wp2_with fail
   try go_step3
   go_wp2_with fail
   try rw [Exit.noGoto_ret]
   go_ret
   exact FIN.out
  ·have hkl := SS.out.inner j dl hl h0
   obtain ⟨ks, k, hk⟩ : ∃ ks k, dl.ks = ks ++ [k] := by
    rcases List.eq_nil_or_concat dl.ks with hh | ⟨ks, k, hh⟩
    ·rw [hh] at hkl; simp at hkl
    ·exact ⟨ks, k, by simpa using hh⟩
   have hk0 : dl.ks[dl.ks.length - 1]? = some k := by rw [hk]; simp
   obtain ⟨dk, hdk, _, hdl⟩ := SS.out.kid j dl k hl (by rw [hk]; simp)
   obtain ⟨gx, hgx, hgc, _⟩ := s.kid hl hk0
   rw [hgx] at hl2
   have jb0 : (0 : Int) < (dl.ks.length : Int) := by omega
   have jb1 : 0 < dl.ks.length := by omega
   have jb2 : ¬ dl.ks.length = 0 := by omega
   have jb3 : (1 : Int) ≤ (dl.ks.length : Int) := by omega
   have jb4 : (0 : Int) ≤ (dl.ks.length : Int) - 1 := by omega
   have jb5 : (dl.ks.length : Int) - 1 < (dl.ks.length : Int) := by omega
   have jb6 : ((dl.ks.length : Int) - 1).toNat = dl.ks.length - 1 := by omega
   have jb7 : IntKind.i64.wrap ((dl.ks.length : Int) - 1) = (dl.ks.length : Int) - 1 := IntWalk.i64_in _ (by omega)
   have HBW := hid hb
   have HOW := hid on
   have HSW := hid s.drew
   have HDK := hid (And.intro hdk (And.intro (show dk.lv < dl.lv by omega) (show ∀ y, RFar σ k y → RFar σ c y from fun y hy => hfar y (.step hl hk hy))))
   have HG := hid hg
   clear hb on s hl hg hfar hfit hm6 hla hlen h0 hk hk0 hdk hdl hgx hkl hla0
   generalize dl.es.length = nl at *
   generalize dl.ks.length = nlk at *
   go_wp2_with fail
   go_still_tail 19, (by kernel_rfl)
   change wpList _ _ _ _ _ wr.drew
   have a0 : wr.drew.cell? ⟨itb, 0, none⟩ = _ := hc0
   have a1 : wr.drew.cell? ⟨itb, 1, none⟩ = _ := hc1
   have a2 : wr.drew.cell? ⟨itb, 2, none⟩ = _ := hc2
   have a3 : wr.drew.cell? ⟨itb, 3, none⟩ = _ := hc3
   have a4 : ∀ k, wr.drew.frozen? ⟨itb, k, none⟩ = false := hf
   have HB9 := hid (show Blk wr.drew itb 57 _ from HBW.out)
   have HO9 := hid (HOW.out.trans (show Only [itb] wr wr.drew from ⟨rfl, rfl, rfl, Nat.le_refl _, fun _ _ _ => rfl⟩))
   clear hc0 hc1 hc2 hc3 hf
   clear hgc hl2 HBW HOW
   generalize wr.drew = w3 at *
   have o1 : Only [itb] w3 (w3.setCell ⟨itb, 1, none⟩ (.pointer (some ⟨k, 0, none⟩))) := (Only.refl _ _).setCell (.inl (by simp)) _
   have F := hid (show ∃ (j : Nat) (dk : ND), Blk (w3.setCell ⟨itb, 1, none⟩ (.pointer (some ⟨k, 0, none⟩))) itb 57 (itC H.tb (some j) (some e.b) 1) ∧ Only [itb] w (w3.setCell ⟨itb, 1, none⟩ (.pointer (some ⟨k, 0, none⟩))) ∧ St (w3.setCell ⟨itb, 1, none⟩ (.pointer (some ⟨k, 0, none⟩))) B H o σ α ∧ σ j = some dk ∧ dk.lv < dl.lv ∧ ∀ y, RFar σ j y → RFar σ c y from
    ⟨k, dk, itSetN HB9.out (some k), HO9.out.trans o1, HSW.out.it HB9.out o1, HDK.out⟩)
   clear o1 HB9 HO9 HSW
   go_wp2_with fail
   go_roundg dl.lv
   case measure => exact HG.out
   case rel => exact F.out
set_option maxHeartbeats 4000000 in
set_option maxRecDepth 100000 in
theorem itPrev_leaf (h : BtAt m o B w H σ α l) (S : Shp σ rt) (ha : Asc o (nk σ rt)) (hfit : Fit σ H.m rt) {n : Nat} {f : En} {L0 R0 : KV} (hi : σ i = some d) (hk : d.ks = []) (he : d.es[n + 1]? = some e) (hfn : d.es[n]? = some f) (cx : Ctxt σ rt i L0 R0) (hb : Blk w itb 57 (itC H.tb (some i) (some e.b) 1)) :
 Calls Tryz.prog 150 #[.pointer (some ⟨itb, 0, none⟩)] w (HitR w itb H.tb σ rt (e.kv :: (rowKvs (nk σ) (d.ks.drop (n + 1 + 1)) (d.es.drop (n + 1 + 1)) ++ R0))) := by
 have SP := hid (prev_leaf hi hk he hfn cx)
 have hfl := (List.getElem?_eq_some_iff.1 hfn).1
 have hn6 : d.es.length ≤ 64 := by have h1 := (hfit i d hi).1; have h2 := h.m3; omega
 have hn := (List.getElem?_eq_some_iff.1 he).1
 have CS := hid (fun (wx : World) (sx : St wx B H o σ α) => search_q sx h.fine hi (S.ascE hi ha) (by omega) e.k (rank_own (S.ascE hi ha) he) rfl)
 have hek := (h.st.en i d e hi (List.mem_of_getElem? he)).1.cell 0
 have hc0 : w.cell? ⟨itb, 0, none⟩ = some (.pointer (some ⟨H.tb, 0, none⟩)) := hb.cell 0
 have hc1 : w.cell? ⟨itb, 1, none⟩ = some (.pointer (some ⟨i, 0, none⟩)) := hb.cell 1
 have hc2 : w.cell? ⟨itb, 2, none⟩ = some (.pointer (some ⟨e.b, 0, none⟩)) := hb.cell 2
 have hc3 : w.cell? ⟨itb, 3, none⟩ = some (.int .u8 1) := hb.cell 3
 have hf := hb.frozen
 have HH := hid h
 have SS := hid S
 have HF := hid hfit
 have HB := hid hb
 have HI := hid hi
 have HHE := hid he
 have HA := hid ha
 have HK := hid hk
 generalize hit o e.k d.es = hv at *
 have in0 : (0 : Int) ≤ (n : Int) := by omega
 have in1 : (0 : Int) ≤ (n : Int) + 1 := by omega
 have in2 : ((n : Int) + 1).toNat = n + 1 := by omega
 have in3 : IntKind.i64.wrap ((n : Int) + 1) = (n : Int) + 1 := IntWalk.i64_in _ (by omega)
 have in4 : decide ((n : Int) + 1 < 0) = false := decide_eq_false (by omega)
 have in5 : decide ((n : Int) < 0) = false := decide_eq_false (by omega)
 have in6 : decide (((n + 1 : Nat) : Int) < 0) = false := decide_eq_false (by omega)
 have in7 : ((n + 1 : Nat) : Int) - 1 = (n : Int) := by omega
 have in8 : IntKind.i64.wrap (n : Int) = (n : Int) := IntWalk.i64_in _ (by omega)
 have in9 : decide ((0 : Int) ≤ (n : Int)) = true := decide_eq_true (by omega)
 generalize hLE : (e.kv :: (rowKvs (nk σ) (d.ks.drop (n + 1 + 1)) (d.es.drop (n + 1 + 1)) ++ R0)) = LE at *
 have HFN := hid hfn
 have ix3 : (n : Int) < (d.es.length : Int) := by omega
 generalize hnd : d.es.length = nd at *
 have HND := hid hnd
 clear hb h S hfit hi he hk hfn cx ha hn hLE hnd hfl
 go_enter Tryz.func150, Tryz.ntmps150
 go_wp2_with fail
 refine wp_scope_once 1 rfl ?_
 go_wp2_with fail
 go_quiet ((go_at_call 120; exact Calls.quiet_of (CS.out _ (HH.out.st.drewN _))))
 have s1 := HH.out.st.drewN nq
 have hb1 : Blk (w.drewN nq) itb 57 _ := HB.out
 have HO1 := hid (show Only [itb] w (w.drewN nq) from ⟨rfl, rfl, rfl, Nat.le_refl _, fun _ _ _ => rfl⟩)
 clear CS hc0 hc1 hc2 hc3 hf hek
 generalize w.drewN nq = w1 at *
 have hc0 : w1.cell? ⟨itb, 0, none⟩ = some (.pointer (some ⟨H.tb, 0, none⟩)) := hb1.cell 0
 have hc1 : w1.cell? ⟨itb, 1, none⟩ = some (.pointer (some ⟨i, 0, none⟩)) := hb1.cell 1
 have hc2 : w1.cell? ⟨itb, 2, none⟩ = some (.pointer (some ⟨e.b, 0, none⟩)) := hb1.cell 2
 have hc3 : w1.cell? ⟨itb, 3, none⟩ = some (.int .u8 1) := hb1.cell 3
 have hf := hb1.frozen
 have hi2 := (s1.cells HI.out).2.2.1
 rw [HK.out] at hi2
 simp only [List.length_nil] at hi2
 obtain ⟨gx, hgx, hgc, _⟩ := s1.ent HI.out HFN.out
 have hi1 := (s1.cells HI.out).2.1
 rw [hgx, HND.out] at hi1
 obtain ⟨X', sp⟩ := SP.out
 have FIN := hid (show HitR w itb H.tb σ rt LE (.returned (.bool true)) ((w1.setCell ⟨itb, 2, none⟩ (.pointer (some ⟨f.b, 0, none⟩))).setCell ⟨itb, 3, none⟩ (.int .u8 1)) from ⟨rfl, i, f, _, sp, itPos (itSetE hb1 (some f.b)) 1, (HO1.out.setCell (.inl (by simp)) _).setCell (.inl (by simp)) _⟩)
 clear s1 hb1 hgx sp
 go_wp2_with fail
 try go_step3
 refine And.intro rfl ?_
 show Code.wp _ _ _ _ _
 go_wp2_with fail
 try go_step3
 go_wp2_with fail
 try rw [Exit.noGoto_ret]
 go_ret
 exact FIN.out
set_option maxHeartbeats 4000000 in
set_option maxRecDepth 100000 in
theorem itPrev_up (h : BtAt m o B w H σ α l) (S : Shp σ rt) (ha : Asc o (nk σ rt)) (hfit : Fit σ H.m rt) {L0 R0 : KV} (hi : σ i = some d) (hk : d.ks = []) (he : d.es[0]? = some e) (cx : Ctxt σ rt i L0 R0) (hb : Blk w itb 57 (itC H.tb (some i) (some e.b) 1)) {Z : KV} (hnk : nk σ rt = Z ++ (e.kv :: (rowKvs (nk σ) (d.ks.drop (0 + 1)) (d.es.drop (0 + 1)) ++ R0))) (hz : Z ≠ []) :
 Calls Tryz.prog 150 #[.pointer (some ⟨itb, 0, none⟩)] w (HitR w itb H.tb σ rt (e.kv :: (rowKvs (nk σ) (d.ks.drop (0 + 1)) (d.es.drop (0 + 1)) ++ R0))) := by
 have hn6 : d.es.length ≤ 64 := by have h1 := (hfit i d hi).1; have h2 := h.m3; omega
 have hn := (List.getElem?_eq_some_iff.1 he).1
 have CS := hid (fun (wx : World) (sx : St wx B H o σ α) => search_q sx h.fine hi (S.ascE hi ha) (by omega) e.k (rank_own (S.ascE hi ha) he) rfl)
 have hek := (h.st.en i d e hi (List.mem_of_getElem? he)).1.cell 0
 have hc0 : w.cell? ⟨itb, 0, none⟩ = some (.pointer (some ⟨H.tb, 0, none⟩)) := hb.cell 0
 have hc1 : w.cell? ⟨itb, 1, none⟩ = some (.pointer (some ⟨i, 0, none⟩)) := hb.cell 1
 have hc2 : w.cell? ⟨itb, 2, none⟩ = some (.pointer (some ⟨e.b, 0, none⟩)) := hb.cell 2
 have hc3 : w.cell? ⟨itb, 3, none⟩ = some (.int .u8 1) := hb.cell 3
 have hf := hb.frozen
 have HH := hid h
 have SS := hid S
 have HF := hid hfit
 have HB := hid hb
 have HI := hid hi
 have HHE := hid he
 have HA := hid ha
 have HK := hid hk
 generalize hit o e.k d.es = hv at *
 have T0 := hid (starts_leaf S ha hi hk he cx)
 have M0 := hid (mem_nk S hi (List.mem_of_getElem? he))
 generalize hLE : (e.kv :: (rowKvs (nk σ) (d.ks.drop (0 + 1)) (d.es.drop (0 + 1)) ++ R0)) = LE at *
 have NK := hid hnk
 have HZ := hid hz
 obtain ⟨r, hrt, _⟩ := S.root
 have HRT := hid hrt
 have in5 : decide ((0 : Int) < 0) = false := rfl
 have in7 : IntKind.i64.wrap (0 - 1) = -1 := by kernel_rfl
 have in8 : decide ((0 : Int) ≤ -1) = false := rfl
 generalize hnd : d.es.length = nd at *
 have HND := hid hnd
 clear hb h S hfit hi he hk cx ha hn hLE hnd hnk hrt hz
 go_enter Tryz.func150, Tryz.ntmps150
 go_wp2_with fail
 refine wp_scope_once 1 rfl ?_
 go_wp2_with fail
 go_quiet ((go_at_call 120; exact Calls.quiet_of (CS.out _ (HH.out.st.drewN _))))
 have s1 := HH.out.st.drewN nq
 have hb1 : Blk (w.drewN nq) itb 57 _ := HB.out
 have HO1 := hid (show Only [itb] w (w.drewN nq) from ⟨rfl, rfl, rfl, Nat.le_refl _, fun _ _ _ => rfl⟩)
 clear CS hc0 hc1 hc2 hc3 hf hek
 generalize w.drewN nq = w1 at *
 have hc0 : w1.cell? ⟨itb, 0, none⟩ = some (.pointer (some ⟨H.tb, 0, none⟩)) := hb1.cell 0
 have hc1 : w1.cell? ⟨itb, 1, none⟩ = some (.pointer (some ⟨i, 0, none⟩)) := hb1.cell 1
 have hc2 : w1.cell? ⟨itb, 2, none⟩ = some (.pointer (some ⟨e.b, 0, none⟩)) := hb1.cell 2
 have hc3 : w1.cell? ⟨itb, 3, none⟩ = some (.int .u8 1) := hb1.cell 3
 have hf := hb1.frozen
 have hi2 := (s1.cells HI.out).2.2.1
 have hi1 := (s1.cells HI.out).2.1
 rw [HND.out] at hi1
 rw [HK.out] at hi2
 simp only [List.length_nil] at hi2
 have HB1 := hid hb1
 have HS1 := hid s1
 clear s1 hb1
 go_wp2_with fail
 go_loopg [] (r.lv + 1) (fun g wr => ∃ (j : Nat) (dj : ND), Blk wr itb 57 (itC H.tb (some j) (some e.b) 1) ∧ Only [itb] w wr ∧ St wr B H o σ α ∧ σ j = some dj ∧ r.lv < dj.lv + g ∧ e.kv ∈ nk σ j ∧ StartsAt σ rt j LE)
 case atStart => exact ⟨i, d, HB1.out, HO1.out, HS1.out, HI.out, by omega, M0.out, T0.out⟩
 case round =>
  clear hc0 hc1 hc2 hc3 hf hi2 hi1
  obtain ⟨j, dj, hb, on, s, hj, hg, hmem, ht⟩ := hrel
  have hc0 : wr.cell? ⟨itb, 0, none⟩ = some (.pointer (some ⟨H.tb, 0, none⟩)) := hb.cell 0
  have hc1 : wr.cell? ⟨itb, 1, none⟩ = some (.pointer (some ⟨j, 0, none⟩)) := hb.cell 1
  have hc2 : wr.cell? ⟨itb, 2, none⟩ = some (.pointer (some ⟨e.b, 0, none⟩)) := hb.cell 2
  have hc3 : wr.cell? ⟨itb, 3, none⟩ = some (.int .u8 1) := hb.cell 3
  have hf := hb.frozen
  have hp0 := (s.cells hj).1
  cases hp : dj.par with
  | none =>
    have hjr := SS.out.top j dj hj hp
    exfalso
    rw [hjr] at ht
    exact HZ.out (ht.top SS.out NK.out)
  | some p =>
    obtain ⟨q, hq, _⟩ := SS.out.up j dj p hj hp
    obtain ⟨kL, kR, hks, hrk, hle, hqlv⟩ := up_rank SS.out HA.out hj hp hq hmem
    have hlv := (SS.out.kidLv hj hp hq).1
    have hbd := SS.out.bd j dj r hj HRT.out
    have hqn6 : q.es.length ≤ 64 := by have h1 := (HF.out p q hq).1; have h2 := HH.out.m3; omega
    have hqk := SS.out.inner p q hq hqlv
    rw [hks] at hqk
    simp only [List.length_append, List.length_cons] at hqk
    have o1 : Only [itb] wr (wr.setCell ⟨itb, 1, none⟩ (.pointer (some ⟨p, 0, none⟩))) := (Only.refl _ _).setCell (.inl (by simp)) _
    have b1 := itSetN hb (some p)
    have s2 := s.it hb o1
    have CS := hid (fun (wx : World) (sx : St wx B H o σ α) => search_q sx HH.out.fine hq (SS.out.ascE hq HA.out) (by omega) e.k hrk rfl)
    have hek := (s2.en i d e HI.out (List.mem_of_getElem? HHE.out)).1.cell 0
    rw [hp] at hp0
    simp only [ptr, Option.map_some] at hp0 b1 s2
    have nc0 : (wr.setCell ⟨itb, 1, none⟩ (.pointer (some ⟨p, 0, none⟩))).cell? ⟨itb, 0, none⟩ = some (.pointer (some ⟨H.tb, 0, none⟩)) := b1.cell 0
    have nc1 : (wr.setCell ⟨itb, 1, none⟩ (.pointer (some ⟨p, 0, none⟩))).cell? ⟨itb, 1, none⟩ = some (.pointer (some ⟨p, 0, none⟩)) := b1.cell 1
    have nc2 : (wr.setCell ⟨itb, 1, none⟩ (.pointer (some ⟨p, 0, none⟩))).cell? ⟨itb, 2, none⟩ = some (.pointer (some ⟨e.b, 0, none⟩)) := b1.cell 2
    have nc3 : (wr.setCell ⟨itb, 1, none⟩ (.pointer (some ⟨p, 0, none⟩))).cell? ⟨itb, 3, none⟩ = some (.int .u8 1) := b1.cell 3
    have nf := b1.frozen
    have HB2 := hid b1
    have HO2 := hid (on.trans o1)
    have HS2 := hid s2
    have HQ := hid hq
    have HT := hid ht
    have HMEM := hid hmem
    have HJ := hid hj
    have HKS := hid hks
    have HRD := hid (And.intro hg (And.intro hlv hbd))
    have HPJ := hid hp
    clear hb on s hj hg hmem ht hp o1 b1 s2 hq hks hrk hqlv hlv hbd
    generalize hit o e.k q.es = hv2 at *
    go_wp2_with fail
    clear hc0 hc1 hc2 hc3 hf hp0
    generalize wr.setCell ⟨itb, 1, none⟩ (.pointer (some ⟨p, 0, none⟩)) = W1 at *
    go_quiet ((go_at_call 120; exact Calls.quiet_of (CS.out _ (HS2.out.drewN _))))
    have s3 := HS2.out.drewN nq
    have hb3 : Blk (W1.drewN nq) itb 57 _ := HB2.out
    have HO3 := hid (HO2.out.trans (show Only [itb] W1 (W1.drewN nq) from ⟨rfl, rfl, rfl, Nat.le_refl _, fun _ _ _ => rfl⟩))
    clear CS nc0 nc1 nc2 nc3 nf hek HS2 HB2 HO2
    generalize W1.drewN nq = W2 at *
    have hc0 : W2.cell? ⟨itb, 0, none⟩ = some (.pointer (some ⟨H.tb, 0, none⟩)) := hb3.cell 0
    have hc1 : W2.cell? ⟨itb, 1, none⟩ = some (.pointer (some ⟨p, 0, none⟩)) := hb3.cell 1
    have hc2 : W2.cell? ⟨itb, 2, none⟩ = some (.pointer (some ⟨e.b, 0, none⟩)) := hb3.cell 2
    have hc3 : W2.cell? ⟨itb, 3, none⟩ = some (.int .u8 1) := hb3.cell 3
    have hf := hb3.frozen
    have hq1 := (s3.cells HQ.out).2.1
    generalize hnq : q.es.length = nq2 at *
    have HNQ := hid hnq
    rcases Nat.eq_zero_or_pos kL.length with hlt | hlt
    ·have hk0 : kL = [] := List.length_eq_zero_iff.1 hlt
     have hkx : q.ks = j :: kR := by rw [HKS.out, hk0]; rfl
     have jx7 : IntKind.i64.wrap (0 - 1) = -1 := by kernel_rfl
     have jx8 : decide ((0 : Int) ≤ -1) = false := rfl
     have F := hid (show ∃ (j2 : Nat) (d2 : ND), Blk W2 itb 57 (itC H.tb (some j2) (some e.b) 1) ∧ Only [itb] w W2 ∧ St W2 B H o σ α ∧ σ j2 = some d2 ∧ r.lv < d2.lv + (r.lv - dj.lv) ∧ e.kv ∈ nk σ j2 ∧ StartsAt σ rt j2 LE from
      ⟨p, q, hb3, HO3.out, s3, HQ.out, by have h1 := HRD.out; omega, mem_up SS.out HQ.out HKS.out HMEM.out, HT.out.up SS.out HQ.out hkx⟩)
     rw [hlt]
     clear hb3 s3 hkx hk0 hlt hnq hle hqk
     go_wp2_with fail
     go_roundg (r.lv - dj.lv)
     case measure => have h1 := HRD.out; omega
     case rel => exact F.out
    ·obtain ⟨f, hff⟩ : ∃ f, q.es[(kL.length - 1)]? = some f := ⟨_, List.getElem?_eq_getElem (by omega)⟩
     obtain ⟨X', sp⟩ := HT.out.hit SS.out HQ.out HKS.out (j := kL.length - 1) (by omega) hff (by omega)
     obtain ⟨gx, hgx, hgc, _⟩ := s3.ent HQ.out hff
     rw [hgx] at hq1
     have FIN := hid (show HitR w itb H.tb σ rt LE (.returned (.bool true)) ((W2.setCell ⟨itb, 2, none⟩ (.pointer (some ⟨f.b, 0, none⟩))).setCell ⟨itb, 3, none⟩ (.int .u8 1)) from ⟨rfl, p, f, _, sp, itPos (itSetE hb3 (some f.b)) 1, (HO3.out.setCell (.inl (by simp)) _).setCell (.inl (by simp)) _⟩)
     obtain ⟨y, hy⟩ : ∃ y, kL.length = y + 1 := ⟨kL.length - 1, by omega⟩
     rw [hy] at hgc hle ⊢
     simp only [Nat.add_sub_cancel] at hgc
     have jy0 : ((y + 1 : Nat) : Int) - 1 = (y : Int) := by omega
     have jy1 : IntKind.i64.wrap (y : Int) = (y : Int) := IntWalk.i64_in _ (by omega)
     have jy2 : decide ((0 : Int) ≤ (y : Int)) = true := decide_eq_true (by omega)
     have jy3 : (y : Int) < (nq2 : Int) := by omega
     have jy4 : (0 : Int) ≤ (y : Int) := by omega
     clear hb3 s3 hgx sp hff hnq hlt hqk hle hy
     go_wp2_with fail
     try go_step3
     refine And.intro rfl ?_
     show Code.wp _ _ _ _ _
     go_wp2_with fail
     try go_step3
     go_wp2_with fail
     try rw [Exit.noGoto_ret]
     go_ret
     exact FIN.out
set_option maxHeartbeats 4000000 in
set_option maxRecDepth 100000 in
theorem itPrev_out (h : BtAt m o B w H σ α l) (S : Shp σ rt) (ha : Asc o (nk σ rt)) (hfit : Fit σ H.m rt) {L0 R0 : KV} (hi : σ i = some d) (hk : d.ks = []) (he : d.es[0]? = some e) (cx : Ctxt σ rt i L0 R0) (hb : Blk w itb 57 (itC H.tb (some i) (some e.b) 1)) (hnk : nk σ rt = [] ++ (e.kv :: (rowKvs (nk σ) (d.ks.drop (0 + 1)) (d.es.drop (0 + 1)) ++ R0))) :
 Calls Tryz.prog 150 #[.pointer (some ⟨itb, 0, none⟩)] w (Out w itb H.tb 0) := by
 have hn6 : d.es.length ≤ 64 := by have h1 := (hfit i d hi).1; have h2 := h.m3; omega
 have hn := (List.getElem?_eq_some_iff.1 he).1
 have CS := hid (fun (wx : World) (sx : St wx B H o σ α) => search_q sx h.fine hi (S.ascE hi ha) (by omega) e.k (rank_own (S.ascE hi ha) he) rfl)
 have hek := (h.st.en i d e hi (List.mem_of_getElem? he)).1.cell 0
 have hc0 : w.cell? ⟨itb, 0, none⟩ = some (.pointer (some ⟨H.tb, 0, none⟩)) := hb.cell 0
 have hc1 : w.cell? ⟨itb, 1, none⟩ = some (.pointer (some ⟨i, 0, none⟩)) := hb.cell 1
 have hc2 : w.cell? ⟨itb, 2, none⟩ = some (.pointer (some ⟨e.b, 0, none⟩)) := hb.cell 2
 have hc3 : w.cell? ⟨itb, 3, none⟩ = some (.int .u8 1) := hb.cell 3
 have hf := hb.frozen
 have HH := hid h
 have SS := hid S
 have HF := hid hfit
 have HB := hid hb
 have HI := hid hi
 have HHE := hid he
 have HA := hid ha
 have HK := hid hk
 generalize hit o e.k d.es = hv at *
 have T0 := hid (starts_leaf S ha hi hk he cx)
 have M0 := hid (mem_nk S hi (List.mem_of_getElem? he))
 generalize hLE : (e.kv :: (rowKvs (nk σ) (d.ks.drop (0 + 1)) (d.es.drop (0 + 1)) ++ R0)) = LE at *
 have NK := hid hnk
 obtain ⟨r, hrt, _⟩ := S.root
 have HRT := hid hrt
 have in5 : decide ((0 : Int) < 0) = false := rfl
 have in7 : IntKind.i64.wrap (0 - 1) = -1 := by kernel_rfl
 have in8 : decide ((0 : Int) ≤ -1) = false := rfl
 generalize hnd : d.es.length = nd at *
 have HND := hid hnd
 clear hb h S hfit hi he hk cx ha hn hLE hnd hnk hrt
 go_enter Tryz.func150, Tryz.ntmps150
 go_wp2_with fail
 refine wp_scope_once 0 rfl ?_
 go_wp2_with fail
 go_quiet ((go_at_call 120; exact Calls.quiet_of (CS.out _ (HH.out.st.drewN _))))
 have s1 := HH.out.st.drewN nq
 have hb1 : Blk (w.drewN nq) itb 57 _ := HB.out
 have HO1 := hid (show Only [itb] w (w.drewN nq) from ⟨rfl, rfl, rfl, Nat.le_refl _, fun _ _ _ => rfl⟩)
 clear CS hc0 hc1 hc2 hc3 hf hek
 generalize w.drewN nq = w1 at *
 have hc0 : w1.cell? ⟨itb, 0, none⟩ = some (.pointer (some ⟨H.tb, 0, none⟩)) := hb1.cell 0
 have hc1 : w1.cell? ⟨itb, 1, none⟩ = some (.pointer (some ⟨i, 0, none⟩)) := hb1.cell 1
 have hc2 : w1.cell? ⟨itb, 2, none⟩ = some (.pointer (some ⟨e.b, 0, none⟩)) := hb1.cell 2
 have hc3 : w1.cell? ⟨itb, 3, none⟩ = some (.int .u8 1) := hb1.cell 3
 have hf := hb1.frozen
 have hi2 := (s1.cells HI.out).2.2.1
 have hi1 := (s1.cells HI.out).2.1
 rw [HND.out] at hi1
 rw [HK.out] at hi2
 simp only [List.length_nil] at hi2
 have HB1 := hid hb1
 have HS1 := hid s1
 clear s1 hb1
 go_wp2_with fail
 go_loopg [] (r.lv + 1) (fun g wr => ∃ (j : Nat) (dj : ND), Blk wr itb 57 (itC H.tb (some j) (some e.b) 1) ∧ Only [itb] w wr ∧ St wr B H o σ α ∧ σ j = some dj ∧ r.lv < dj.lv + g ∧ e.kv ∈ nk σ j ∧ StartsAt σ rt j LE)
 case atStart => exact ⟨i, d, HB1.out, HO1.out, HS1.out, HI.out, by omega, M0.out, T0.out⟩
 case round =>
  clear hc0 hc1 hc2 hc3 hf hi2 hi1
  obtain ⟨j, dj, hb, on, s, hj, hg, hmem, ht⟩ := hrel
  have hc0 : wr.cell? ⟨itb, 0, none⟩ = some (.pointer (some ⟨H.tb, 0, none⟩)) := hb.cell 0
  have hc1 : wr.cell? ⟨itb, 1, none⟩ = some (.pointer (some ⟨j, 0, none⟩)) := hb.cell 1
  have hc2 : wr.cell? ⟨itb, 2, none⟩ = some (.pointer (some ⟨e.b, 0, none⟩)) := hb.cell 2
  have hc3 : wr.cell? ⟨itb, 3, none⟩ = some (.int .u8 1) := hb.cell 3
  have hf := hb.frozen
  have hp0 := (s.cells hj).1
  cases hp : dj.par with
  | none =>
    have hjr := SS.out.top j dj hj hp
    have CE := hid (itBegin_walk hb)
    have HO := hid on
    rw [hp] at hp0
    simp only [ptr, Option.map_none] at hp0
    clear hb on s hj hg hmem ht hp hjr
    go_wp2_with fail
    try go_step3
    go_wp2_with fail
    refine CE.out.mono ?_
    rintro e1 w2 ⟨rfl, hb2, on2⟩
    have F := hid (show Blk w2 itb 57 (itC H.tb none none 0) ∧ Only [itb] w w2 from ⟨hb2, HO.out.trans on2⟩)
    clear CE hb2 on2
    go_wp2_with fail
    try rw [Exit.noGoto_ret]
    go_ret
    exact ⟨rfl, F.out⟩
  | some p =>
    obtain ⟨q, hq, _⟩ := SS.out.up j dj p hj hp
    obtain ⟨kL, kR, hks, hrk, hle, hqlv⟩ := up_rank SS.out HA.out hj hp hq hmem
    have hlv := (SS.out.kidLv hj hp hq).1
    have hbd := SS.out.bd j dj r hj HRT.out
    have hqn6 : q.es.length ≤ 64 := by have h1 := (HF.out p q hq).1; have h2 := HH.out.m3; omega
    have hqk := SS.out.inner p q hq hqlv
    rw [hks] at hqk
    simp only [List.length_append, List.length_cons] at hqk
    have o1 : Only [itb] wr (wr.setCell ⟨itb, 1, none⟩ (.pointer (some ⟨p, 0, none⟩))) := (Only.refl _ _).setCell (.inl (by simp)) _
    have b1 := itSetN hb (some p)
    have s2 := s.it hb o1
    have CS := hid (fun (wx : World) (sx : St wx B H o σ α) => search_q sx HH.out.fine hq (SS.out.ascE hq HA.out) (by omega) e.k hrk rfl)
    have hek := (s2.en i d e HI.out (List.mem_of_getElem? HHE.out)).1.cell 0
    rw [hp] at hp0
    simp only [ptr, Option.map_some] at hp0 b1 s2
    have nc0 : (wr.setCell ⟨itb, 1, none⟩ (.pointer (some ⟨p, 0, none⟩))).cell? ⟨itb, 0, none⟩ = some (.pointer (some ⟨H.tb, 0, none⟩)) := b1.cell 0
    have nc1 : (wr.setCell ⟨itb, 1, none⟩ (.pointer (some ⟨p, 0, none⟩))).cell? ⟨itb, 1, none⟩ = some (.pointer (some ⟨p, 0, none⟩)) := b1.cell 1
    have nc2 : (wr.setCell ⟨itb, 1, none⟩ (.pointer (some ⟨p, 0, none⟩))).cell? ⟨itb, 2, none⟩ = some (.pointer (some ⟨e.b, 0, none⟩)) := b1.cell 2
    have nc3 : (wr.setCell ⟨itb, 1, none⟩ (.pointer (some ⟨p, 0, none⟩))).cell? ⟨itb, 3, none⟩ = some (.int .u8 1) := b1.cell 3
    have nf := b1.frozen
    have HB2 := hid b1
    have HO2 := hid (on.trans o1)
    have HS2 := hid s2
    have HQ := hid hq
    have HT := hid ht
    have HMEM := hid hmem
    have HJ := hid hj
    have HKS := hid hks
    have HRD := hid (And.intro hg (And.intro hlv hbd))
    have HPJ := hid hp
    clear hb on s hj hg hmem ht hp o1 b1 s2 hq hks hrk hqlv hlv hbd
    generalize hit o e.k q.es = hv2 at *
    go_wp2_with fail
    clear hc0 hc1 hc2 hc3 hf hp0
    generalize wr.setCell ⟨itb, 1, none⟩ (.pointer (some ⟨p, 0, none⟩)) = W1 at *
    go_quiet ((go_at_call 120; exact Calls.quiet_of (CS.out _ (HS2.out.drewN _))))
    have s3 := HS2.out.drewN nq
    have hb3 : Blk (W1.drewN nq) itb 57 _ := HB2.out
    have HO3 := hid (HO2.out.trans (show Only [itb] W1 (W1.drewN nq) from ⟨rfl, rfl, rfl, Nat.le_refl _, fun _ _ _ => rfl⟩))
    clear CS nc0 nc1 nc2 nc3 nf hek HS2 HB2 HO2
    generalize W1.drewN nq = W2 at *
    have hc0 : W2.cell? ⟨itb, 0, none⟩ = some (.pointer (some ⟨H.tb, 0, none⟩)) := hb3.cell 0
    have hc1 : W2.cell? ⟨itb, 1, none⟩ = some (.pointer (some ⟨p, 0, none⟩)) := hb3.cell 1
    have hc2 : W2.cell? ⟨itb, 2, none⟩ = some (.pointer (some ⟨e.b, 0, none⟩)) := hb3.cell 2
    have hc3 : W2.cell? ⟨itb, 3, none⟩ = some (.int .u8 1) := hb3.cell 3
    have hf := hb3.frozen
    have hq1 := (s3.cells HQ.out).2.1
    generalize hnq : q.es.length = nq2 at *
    have HNQ := hid hnq
    rcases Nat.eq_zero_or_pos kL.length with hlt | hlt
    ·have hk0 : kL = [] := List.length_eq_zero_iff.1 hlt
     have hkx : q.ks = j :: kR := by rw [HKS.out, hk0]; rfl
     have jx7 : IntKind.i64.wrap (0 - 1) = -1 := by kernel_rfl
     have jx8 : decide ((0 : Int) ≤ -1) = false := rfl
     have F := hid (show ∃ (j2 : Nat) (d2 : ND), Blk W2 itb 57 (itC H.tb (some j2) (some e.b) 1) ∧ Only [itb] w W2 ∧ St W2 B H o σ α ∧ σ j2 = some d2 ∧ r.lv < d2.lv + (r.lv - dj.lv) ∧ e.kv ∈ nk σ j2 ∧ StartsAt σ rt j2 LE from
      ⟨p, q, hb3, HO3.out, s3, HQ.out, by have h1 := HRD.out; omega, mem_up SS.out HQ.out HKS.out HMEM.out, HT.out.up SS.out HQ.out hkx⟩)
     rw [hlt]
     clear hb3 s3 hkx hk0 hlt hnq hle hqk
     go_wp2_with fail
     go_roundg (r.lv - dj.lv)
     case measure => have h1 := HRD.out; omega
     case rel => exact F.out
    ·obtain ⟨f, hff⟩ : ∃ f, q.es[(kL.length - 1)]? = some f := ⟨_, List.getElem?_eq_getElem (by omega)⟩
     obtain ⟨X', sp⟩ := HT.out.hit SS.out HQ.out HKS.out (j := kL.length - 1) (by omega) hff (by omega)
     exfalso
     have e1 := sp.now SS.out
     have e2 := NK.out
     rw [e1] at e2
     have := congrArg List.length e2
     simp at this
     omega
end
end Go.Proofs.YtjjolokeceldmaaGreat.Bt
