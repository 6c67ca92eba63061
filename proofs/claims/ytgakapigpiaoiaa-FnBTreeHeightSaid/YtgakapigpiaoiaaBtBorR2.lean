import Derived.Test.YtgakapigpiaoiaaBtBorR
namespace Go.Proofs.Ytgakapigpiaoiaa.Bt
open Go.RowKit Go.Proofs.Ytgakapigpiaoiaa
set_option maxHeartbeats 8000000 in
set_option maxRecDepth 100000 in
theorem reb_borR2 {w : World} {B x p rt b : Nat} {H : Hd} {o : Ord} {σ : Store} {α : Nat → Arr} {d q db : ND} {k : Int} (s : St w B H o σ α) (ho : o.fine) (hm : 3 ≤ H.m ∧ H.m ≤ 64) (hr : H.root = some rt) (S : Shp σ rt) (h : σ x = some d) (hdp : d.par = some p) (hq : σ p = some q) (hf : Fit0X σ H.m rt x) (hl : (d.es.length : Int) = (H.m + 1) / 2 - 2) (hasc : Asc o (nk σ rt)) {kL kR : List Nat} {eL eR : List En} {sep : En} (hrk : rank o (o.rk k) q.es = kL.length)
    (hks : q.ks = kL ++ x :: b :: kR) (hqe : q.es = eL ++ sep :: eR) (hln : kL.length = eL.length) (hb : σ b = some db) (hbl : (H.m + 1) / 2 - 1 < (db.es.length : Int)) {kA : List Nat} {a : Nat} {da : ND} (hleft : kL = kA ++ [a]) (ha : σ a = some da) (hal : (da.es.length : Int) ≤ (H.m + 1) / 2 - 1) :
    Calls Try.prog 68 #[.pointer (some ⟨H.tb, 0, none⟩), .pointer (some ⟨x, 0, none⟩), .iface 3 (.int .i64 k)] w (RebPost w B H o σ rt x) := by
  have HLE := Lib.hid (show LeastL σ H.m kL from .inr ⟨kA, a, da, hleft, ha, by unfold mnOf; omega⟩)
  have hxp : x ≠ p := fun e => by
    have := (S.kidLv h hdp hq).1
    rw [e, hq] at h
    injection h with h
    subst h
    omega
  have hfp := hf p q hq hxp.symm
  have hplv : q.lv = d.lv + 1 := by have := (S.kidLv h hdp hq).1; omega
  have hqn : q.es.length ≤ 64 := by have := hfp.1; omega
  have hqk : q.ks.length = q.es.length + 1 := S.inner p q hq (by omega)
  have hdn : d.es.length ≤ 64 := by omega
  have hqa := S.ascE hq hasc
  obtain ⟨j, hj⟩ : ∃ j, kL.length = j := ⟨_, rfl⟩
  have hbi : q.ks[j + 1]? = some b := by rw [hks, ← hj, List.getElem?_append_right (by omega)]; simp
  have hsi : q.es[j]? = some sep := by rw [hqe, ← hj, hln, List.getElem?_append_right (by omega)]; simp
  have hbx : b ≠ x := fun e => by
    have := S.nd p q hq
    rw [hks, List.nodup_append] at this
    have := (List.nodup_cons.1 this.2.1).1
    simp [e] at this
  obtain ⟨f, eb, hbe⟩ : ∃ f eb, db.es = f :: eb := by
    cases hh : db.es with
    | nil => rw [hh] at hbl; simp only [List.length_nil] at hbl; omega
    | cons f eb => exact ⟨f, eb, rfl⟩
  have CME := Lib.hid (fun (wx : World) (sx : St wx B H o σ α) n => minEntries_walk (sx.drewN n) hm)
  obtain ⟨i, hi⟩ : ∃ i, kA.length = i := ⟨_, rfl⟩
  have hij : kL.length = i + 1 := by rw [hleft, ← hi]; simp
  have hai : q.ks[i]? = some a := by rw [hks, hleft, ← hi]; simp
  have CLS := Lib.hid (fun (wx : World) (sx : St wx B H o σ α) => sib_st (leftSib_some sx ho h hdp hq hqa (by omega) k i (by rw [hrk, hij]) hai) sx)
  have HA := Lib.hid ha
  have hd3 : decide ((H.m + 1) / 2 - 1 < (da.es.length : Int)) = false := decide_eq_false (by omega)
  have hna6 : da.es.length ≤ 64 := by omega
  have CRS := Lib.hid (fun (wx : World) (sx : St wx B H o σ α) => sib_st (rightSib_some sx ho h hdp hq hqa (by omega) k j (by rw [hrk, hj]) hbi) sx)
  have hx1 := (s.cells h).2.1
  have HS := Lib.hid s
  have HH := Lib.hid h
  have HQ := Lib.hid hq
  have HDP := Lib.hid hdp
  have HB := Lib.hid hb
  have SS := Lib.hid S
  have HR := Lib.hid hr
  have HF := Lib.hid hf
  have HL := Lib.hid hl
  have HBL := Lib.hid hbl
  have HM3 := Lib.hid hm
  have HO := Lib.hid ho
  have HAS := Lib.hid hasc
  have HKS := Lib.hid hks
  have HQE := Lib.hid hqe
  have HLN := Lib.hid hln
  have HXP := Lib.hid hxp
  have HBX := Lib.hid hbx
  have HFP := Lib.hid hfp
  have HPL := Lib.hid hplv
  have HQK := Lib.hid hqk
  have HBI := Lib.hid hbi
  have HSI := Lib.hid hsi
  have HBE := Lib.hid hbe
  have HJ := Lib.hid hj
  have hjn : j < q.es.length := (List.getElem?_eq_some_iff.1 hsi).1
  have hd0 : decide ((H.m + 1) / 2 - 1 ≤ (d.es.length : Int)) = false := decide_eq_false (by omega)
  have hd2 : decide ((H.m + 1) / 2 - 1 < (db.es.length : Int)) = true := decide_eq_true (by omega)
  have hnb6 : db.es.length ≤ 64 := by have := (hf b db hb hbx).1; omega
  have ib0 : (0 : Int) < (db.es.length : Int) := by omega
  have ib1 : 0 < db.es.length := by omega
  have ib2 : ¬ db.es.length = 0 := by omega
  clear s h hq hdp hb S hr hf hl hbl hm ho hasc hks hqe hln hj hxp hbx hfp hplv hqk hbi hsi hqa hrk hleft hbe ha hal hi hij hai
  generalize hqv : (H.m + 1) / 2 - 1 = qv at *
  have HQV := Lib.hid hqv
  clear hqv
  have ij0 : (0 : Int) ≤ (j : Int) := by omega
  have ij1 : (j : Int) < (q.es.length : Int) := by omega
  have ij2 : (j : Int) ≤ 64 := by omega
  have ij3 : (0 : Int) ≤ (j : Int) + 1 := by omega
  have ij4 : ((j : Int) + 1).toNat = j + 1 := by omega
  have ij5 : (j : Int) + 1 < (q.es.length : Int) + 1 := by omega
  have ij6 : IntKind.i64.wrap ((j : Int)) = (j : Int) := IntWalk.i64_in _ (by omega)
  have ij7 : IntKind.i64.wrap ((j : Int) + 1 - 1) = (j : Int) := by rw [Int.add_sub_cancel]; exact ij6
  generalize hnx : d.es.length = nx at *
  generalize hnb : db.es.length = nb at *
  generalize hnq : q.es.length = nq2 at *
  have HNX := Lib.hid hnx
  have HNB := Lib.hid hnb
  have HNQ := Lib.hid hnq
  clear hnx hnb hnq
  generalize hna : da.es.length = na at *
  have HNA := Lib.hid hna
  clear hna
  go_enter Try.func68, Try.ntmps68
  go_wp2_with fail
  go_quiet ((go_at_call 72; exact quiet_left (CME.out _ HS.out _)))
  go_wp2_with fail
  refine (CLS.out _ (HS.out.drewN _)).mono ?_
  rintro e1 w1 ⟨rfl, s1, b1⟩
  have HS1 := Lib.hid s1
  have HB1 := Lib.hid ((Below.drewN' (Below.refl B w) _).trans b1)
  have ha1 := (s1.cells HA.out).2.1
  rw [HNA.out] at ha1
  clear s1 b1 hx1 CLS
  go_wp2_with fail
  go_quiet ((go_at_call 72; exact quiet_left (CME.out _ HS1.out _)))
  go_wp2_with fail
  refine (CRS.out _ (HS1.out.drewN _)).mono ?_
  rintro e2 w2 ⟨rfl, s2, b2⟩
  have HS2 := Lib.hid s2
  have HB2 := Lib.hid ((Below.drewN' HB1.out _).trans b2)
  have hb1 := (s2.cells HB.out).2.1
  rw [HNB.out] at hb1
  clear s2 b2 CRS HS1 HB1
  go_wp2_with fail
  go_quiet ((go_at_call 72; exact quiet_left (CME.out _ HS2.out _)))
  have HS3 := Lib.hid (HS2.out.drewN nq)
  have HB3 := Lib.hid (Below.drewN' HB2.out nq)
  clear HS2 HB2 CME
  generalize w2.drewN nq = w3 at *
  clear hb1 ha1
  go_upto_region 13 with fail
  go_cut [169] from 151 to 170 (fun _ wx => ∃ α', St wx B H o (upd σ x (some { d with es := d.es ++ [sep] })) α' ∧ Below B w wx)
  case first =>
    obtain ⟨X1, cx, X2, cx2, hax⟩ := St.arr α x
    have HAX := Lib.hid hax
    have hx0 := (HS3.out.cells HH.out).1
    rw [HDP.out] at hx0
    have hx1 := (HS3.out.cells' HH.out hax).2.1
    rw [HNX.out] at hx1
    simp only [ptr, Option.map_some] at hx0
    obtain ⟨gp, hgp, hgpc, _, hsk, _⟩ := HS3.out.ent HQ.out HSI.out
    have hp1 := (HS3.out.cells HQ.out).2.1
    rw [hgp, HNQ.out] at hp1
    have OW3 := Lib.hid (show ((w3.alloc (.cells #[.pointer (some ⟨sep.b, 0, none⟩)] 62)).drew).ownsRow B 62 1 (.slice X1 nx cx) nx (enRow d.es) from by have := (HS3.out.own1' HH.out hax).alloc (.cells #[.pointer (some ⟨sep.b, 0, none⟩)] 62); rw [HNX.out] at this; exact this)
    have LB3 := Lib.hid (show Blk ((w3.alloc (.cells #[.pointer (some ⟨sep.b, 0, none⟩)] 62)).drew) x 61 _ from (HS3.out.nd x d HH.out).blk.alloc _)
    have hx1A : (w3.alloc (.cells #[.pointer (some ⟨sep.b, 0, none⟩)] 62)).cell? ⟨x, 1, none⟩ = some (.slice X1 nx cx) := by have := ((HS3.out.alloc (.cells #[.pointer (some ⟨sep.b, 0, none⟩)] 62)).cells' HH.out hax).2.1; rwa [HNX.out] at this
    clear hax
    go_region_law
      (first
        | (refine step_app (t := 58) (e := 62) (z := .pointer none) (size := 1) (bytes := 8) Try.underlying58 en_info rfl (by omega) rfl (.tmp 155) (.tmp 167) rfl B (.slice X1 nx cx) nx (enRow d.es) rfl OW3.out (some ⟨w3.heap.size, 0, none⟩) 1 1 [.pointer (some ⟨sep.b, 0, none⟩)] rfl (src_blk (Blk.drew (Blk.new _ _ _)) rfl) (fun u hu => by simp only [List.mem_singleton] at hu; subst hu; rfl) (by omega) (by omega) (by have := HS3.out.hB; simp; omega) ?_
           intro v4 w4 own4 gr4 ob4
           obtain ⟨A4, c4, rfl, _, _⟩ := own_slice own4
           have LX4 := Lib.hid (LB3.out.same (gr4.block x LB3.out.lt (fun e => own_neB OW3.out LB3.out (by decide) e.symm)))
           have hq4 := LX4.out.cell 1
           have hq4f := LX4.out.frozen 1
           have G4 := Lib.hid (And.intro own4 (And.intro gr4 ob4))
           clear own4 gr4 ob4))
    all_goals
      have F4 := Lib.hid (show ∃ α', St (w4.setCell ⟨x, 1, none⟩ (.slice A4 (nx + 1) c4)) B H o (upd σ x (some { d with es := d.es ++ [sep] })) α' ∧ Below B w (w4.setCell ⟨x, 1, none⟩ (.slice A4 (nx + 1) c4)) from by
        obtain ⟨own4, gr4, ob4⟩ := G4.out
        rw [show enRow d.es ++ [Value.pointer (some ⟨sep.b, 0, none⟩)] = enRow (d.es ++ [sep]) by rw [enRow_append]; rfl] at own4
        obtain ⟨s4, b4⟩ := HS3.out.setEs HH.out own4 (grown_less gr4) (fun k hk => by rw [HAX.out]; exact ownBlock_slice hk) (fun y hy => by
          rw [HAX.out]
          rcases fresh_of ob4 y hy with h1 | h1
          · exact .inl h1
          · right; simp [World.drew] at h1; omega) (by rw [List.length_append, HNX.out]; rfl) (fun e he => by
          rcases List.mem_append.1 he with h1 | h1
          · exact .inl h1
          · simp only [List.mem_singleton] at h1; subst h1; exact .inr (HS3.out.en p q _ HQ.out (List.mem_of_getElem? HSI.out)))
        exact ⟨_, s4, HB3.out.trans b4⟩)
      clear hx0 hx1 hx1A hp1 hgpc hsk hgp OW3 LB3 LX4 G4
      go_wp2_with fail
      go_meet
      case rel => exact F4.out
  case rest =>
    obtain ⟨α4, s4, b4⟩ := hcut
    have HS4 := Lib.hid s4
    have HB4 := Lib.hid b4
    clear s4 b4 HS3 HB3
    generalize wc = w4 at *
    obtain ⟨σ4, hσ4⟩ : ∃ σ4, σ4 = upd σ x (some { d with es := d.es ++ [sep] }) := ⟨_, rfl⟩
    have hx4 : σ4 x = some { d with es := d.es ++ [sep] } := by rw [hσ4]; exact upd_at _ _ _
    have ho4 : ∀ j', j' ≠ x → σ4 j' = σ j' := fun j' h1 => by rw [hσ4]; exact upd_ne _ _ h1
    have s4 := HS4.out
    rw [← hσ4] at s4
    have hp4 : σ4 p = some q := by rw [ho4 p HXP.out.symm]; exact HQ.out
    have hb4 : σ4 b = some db := by rw [ho4 b HBX.out]; exact HB.out
    have hbe0 : db.es[0]? = some f := by rw [HBE.out]; rfl
    have hx0 := (s4.cells hx4).1
    simp only [HDP.out, ptr, Option.map_some] at hx0
    obtain ⟨gp, hgp, hgpc, hgpf, _⟩ := s4.ent hp4 HSI.out
    have hp1 := (s4.cells hp4).2.1
    rw [hgp, HNQ.out] at hp1
    obtain ⟨gb, hgb, hgbc, _⟩ := s4.ent hb4 hbe0
    have hb1 := (s4.cells hb4).2.1
    rw [hgb, HNB.out] at hb1
    have HS4 := Lib.hid s4
    have HX4 := Lib.hid hx4
    have HO4 := Lib.hid ho4
    have HP4 := Lib.hid hp4
    have HB4' := Lib.hid hb4
    have HGP := Lib.hid hgp
    have HGPC := Lib.hid hgpc
    have HP1 := Lib.hid hp1
    have HX0 := Lib.hid hx0
    have HGPF := Lib.hid (hgpf j)
    clear s4 hσ4 hx4 ho4 hp4 hb4 hgp hgpf hgb
    go_wp2_with fail
    go_still_tail 16, (by kernel_rfl)
    change wpList _ _ _ _ _ w4.drew
    have s5 := HS4.out.drew
    have hgpc' : w4.drew.cell? ⟨gp, j, none⟩ = _ := HGPC.out
    have hp1' : w4.drew.cell? ⟨p, 1, none⟩ = _ := HP1.out
    have hx0' : w4.drew.cell? ⟨x, 0, none⟩ = _ := HX0.out
    have hgpf' : w4.drew.frozen? ⟨gp, j, none⟩ = false := HGPF.out
    clear hgpc hp1 hx0 hgbc hb1 HGPC HP1 HX0 HGPF
    have HB5 := Lib.hid (below_of_drew (B := B) (w := w4) (w' := w4.drew) (Below.refl _ _))
    have HS5 := Lib.hid s5
    clear s5 HS4
    generalize w4.drew = w5 at *
    go_wp2_with fail
    obtain ⟨s6, b6⟩ := HS5.out.setEn (j := j) HP4.out HGP.out (HS5.out.en b db f HB4'.out (by rw [HBE.out]; simp))
    have hqs : q.es.set j f = eL ++ f :: eR := by rw [HQE.out, ← HJ.out, HLN.out]; exact set_mid eL eR sep f
    rw [hqs] at s6
    obtain ⟨σ6, hσ6⟩ : ∃ σ6, σ6 = upd σ4 p (some { q with es := eL ++ f :: eR }) := ⟨_, rfl⟩
    rw [← hσ6] at s6
    have hbp : b ≠ p := fun e' => SS.out.not_own HQ.out (by rw [HKS.out, ← e']; simp)
    have hx6 : σ6 x = some { d with es := d.es ++ [sep] } := by rw [hσ6, upd_ne _ _ HXP.out]; exact HX4.out
    have hb6 : σ6 b = some db := by rw [hσ6, upd_ne _ _ hbp]; exact HB4'.out
    have hp6 : σ6 p = some { q with es := eL ++ f :: eR } := by rw [hσ6]; exact upd_at _ _ _
    have ho6 : ∀ j', j' ≠ x → j' ≠ p → σ6 j' = σ j' := fun j' h1 h2 => by rw [hσ6, upd_ne _ _ h2]; exact HO4.out j' h1
    have CD := delEntry_walk s6 hb6 0 (by rw [HNB.out]; exact ib1) (by rw [HNB.out]; omega) (.pointer (some ⟨H.tb, 0, none⟩))
    have h00 : ((0 : Nat) : Int) = 0 := rfl
    rw [h00] at CD
    have CDH := Lib.hid CD
    have HB6 := Lib.hid ((HB4.out.trans HB5.out).trans b6)
    have HBP := Lib.hid hbp
    have HX6 := Lib.hid hx6
    have HB6' := Lib.hid hb6
    have HP6 := Lib.hid hp6
    have HO6 := Lib.hid ho6
    clear s6 b6 hqs hσ6 hbp hx6 hb6 hp6 ho6 CD h00 HB4 HB5 HS5 hgpc' hp1' hx0' hgpf' HX4 HO4 HP4 HB4' HGP
    generalize w5.setCell ⟨gp, j, none⟩ (.pointer (some ⟨f.b, 0, none⟩)) = w6 at *
    refine CDH.out.mono ?_
    rintro e7 w7 ⟨rfl, s7, b7⟩
    clear CDH
    have hbe1 : db.es.eraseIdx 0 = eb := by rw [HBE.out]; rfl
    rw [hbe1] at s7
    obtain ⟨σ7, hσ7⟩ : ∃ σ7, σ7 = upd σ6 b (some { db with es := eb }) := ⟨_, rfl⟩
    rw [← hσ7] at s7
    have hx7 : σ7 x = some { d with es := d.es ++ [sep] } := by rw [hσ7, upd_ne _ _ HBX.out.symm]; exact HX6.out
    have hb7 : σ7 b = some { db with es := eb } := by rw [hσ7]; exact upd_at _ _ _
    have hp7 : σ7 p = some { q with es := eL ++ f :: eR } := by rw [hσ7, upd_ne _ _ HBP.out.symm]; exact HP6.out
    have ho7 : ∀ j', j' ≠ x → j' ≠ p → j' ≠ b → σ7 j' = σ j' := fun j' h1 h2 h3 => by rw [hσ7, upd_ne _ _ h3]; exact HO6.out j' h1 h2
    have CL := isLeaf_walk s7 hb7 (.pointer (some ⟨H.tb, 0, none⟩))
    simp only at CL
    have hbd := SS.out.kidOf HQ.out (by rw [HKS.out]; simp) HB.out
    have hxd := SS.out.kidOf HQ.out (by rw [HKS.out]; simp) HH.out
    have HB7 := Lib.hid (HB6.out.trans b7)
    have HBD := Lib.hid hbd
    have HXD := Lib.hid hxd
    have HX7 := Lib.hid hx7
    have HB7' := Lib.hid hb7
    have HP7 := Lib.hid hp7
    have HO7 := Lib.hid ho7
    have HS7 := Lib.hid s7
    clear s7 b7 hσ7 hx7 hb7 hp7 ho7 hbd hxd hbe1 HB6 HX6 HB6' HP6 HO6
    rcases Nat.eq_zero_or_pos d.lv with hlv0 | hlv0
    · have hbk := SS.out.leaf b db HB.out (by have := HBD.out; have := HXD.out; omega)
      have hdk := SS.out.leaf x d HH.out hlv0
      have hk0 : ((db.ks.length : Int) == 0) = true := by rw [hbk]; rfl
      rw [hk0] at CL
      have CLH := Lib.hid CL
      have T := borrowR_end (σ' := σ7) SS.out HH.out HB.out HQ.out HKS.out HQE.out HLN.out HF.out (by have h1 := HL.out; have h2 := HNX.out; omega) HM3.out (by have h1 := HBL.out; have h2 := HNB.out; have h3 := HQV.out; omega) HBE.out (ka := d.ks) (kb := db.ks) rfl (.inl ⟨hlv0, hdk, hbk⟩)
        (by rw [HX7.out, ← HDP.out]) (by rw [HB7'.out, HBD.out.1, show d.lv = db.lv from by have := HBD.out; have := HXD.out; omega]) (by rw [HP7.out]) (fun g hg => by rw [hdk] at hg; cases hg) (fun g hg => by rw [hbk] at hg; cases hg) (fun j' h1 h2 h3 _ _ => HO7.out j' h2 h1 h3)
      have FIN := Lib.hid (show RebPost w B H o σ rt x (.returned (.tuple #[])) w7 from ⟨rfl, σ7, _, rt, by rw [H.eta HR.out]; exact HS7.out, T.2.1, T.1, T.2.2.1, HB7.out, fun c' ac => T.2.2.2 c' HLE.out ac⟩)
      clear T CL hk0 hbk hdk hlv0
      go_wp2_with fail
      refine CLH.out.mono ?_
      rintro e8 w8 ⟨rfl, rfl⟩
      clear CLH
      go_wp2_with fail
      (try simp only [Exit.inBlock, Exit.then])
      refine bodyPost_ret (results_none rfl _ _ _) rfl ?_
      exact FIN.out
    · have hblv : 0 < db.lv := by have := HBD.out; have := HXD.out; omega
      have hbkl := SS.out.inner b db HB.out hblv
      have hdkl := SS.out.inner x d HH.out hlv0
      obtain ⟨c, kb, hbk⟩ : ∃ c kb, db.ks = c :: kb := by
        cases hh : db.ks with
        | nil => rw [hh] at hbkl; simp at hbkl
        | cons c kb => exact ⟨c, kb, rfl⟩
      obtain ⟨cd, hc, hcp, hcl⟩ := SS.out.kid b db c HB.out (by rw [hbk]; simp)
      have hcx : c ≠ x := fun e' => by rw [e', HH.out] at hc; injection hc with hc; subst hc; have := HBD.out; have := HXD.out; omega
      have hcpp : c ≠ p := fun e' => by rw [e', HQ.out] at hc; injection hc with hc; subst hc; have := HBD.out; omega
      have hcb : c ≠ b := fun e' => by rw [e', HB.out] at hc; injection hc with hc; subst hc; omega
      have hk0 : ((db.ks.length : Int) == 0) = false := by rw [hbk]; simp only [List.length_cons, beq_eq_false_iff_ne, ne_eq]; omega
      rw [hk0] at CL
      have CLH := Lib.hid CL
      have hc7 : σ7 c = some cd := by rw [HO7.out c hcx hcpp hcb]; exact hc
      obtain ⟨gk, hgk, hgkc, _⟩ := HS7.out.kid HB7'.out (show ({ db with es := eb } : ND).ks[0]? = some c by simp only; rw [hbk]; rfl)
      have hb2 := (HS7.out.cells HB7'.out).2.2.1
      simp only at hb2
      rw [hgk] at hb2
      have hc0 := (HS7.out.cells hc7).1
      have hc0f := (HS7.out.nd c cd hc7).blk.frozen 0
      have hbkn : db.ks.length ≤ 1000 := by have := HNB.out; omega
      have hdkn : d.ks.length ≤ 1000 := by have := HNX.out; omega
      have HBKL := Lib.hid hbkl
      have HBKN := Lib.hid hbkn
      have HDKL := Lib.hid hdkl
      have HDKN := Lib.hid hdkn
      have HBK := Lib.hid hbk
      have HC7 := Lib.hid hc7
      have HC := Lib.hid hc
      have HCP := Lib.hid hcp
      have HCX := Lib.hid hcx
      have HCPP := Lib.hid hcpp
      have HCB := Lib.hid hcb
      have HLV0 := Lib.hid hlv0
      generalize hnbk : db.ks.length = nbk at *
      have HNBK := Lib.hid hnbk
      have ik0 : (0 : Int) < (nbk : Int) := by omega
      have ik1 : 0 < nbk := by omega
      have ik2 : ¬ nbk = 0 := by omega
      clear CL hk0 hblv hbkl hdkl hbk hc hcp hcl hcx hcpp hcb hc7 hgk hbkn hdkn hlv0 hnbk
      go_wp2_with fail
      refine CLH.out.mono ?_
      rintro e8 w8 ⟨rfl, rfl⟩
      clear CLH
      go_upto_region 19 with fail
      have s8 := HS7.out.setPar HC7.out (some x)
      have b8 : Below B w7 (w7.setCell ⟨c, 0, none⟩ (.pointer (some ⟨x, 0, none⟩))) := (Below.refl _ _).setCell (HS7.out.nd c cd HC7.out).ge _
      simp only [ptr, Option.map_some] at s8
      have HB8 := Lib.hid (HB7.out.trans b8)
      obtain ⟨σ8, hσ8⟩ : ∃ σ8, σ8 = upd σ7 c (some { cd with par := some x }) := ⟨_, rfl⟩
      rw [← hσ8] at s8
      have hx8 : σ8 x = some { d with es := d.es ++ [sep] } := by rw [hσ8, upd_ne _ _ HCX.out.symm]; exact HX7.out
      have hb8 : σ8 b = some { db with es := eb } := by rw [hσ8, upd_ne _ _ HCB.out.symm]; exact HB7'.out
      have hp8 : σ8 p = some { q with es := eL ++ f :: eR } := by rw [hσ8, upd_ne _ _ HCPP.out.symm]; exact HP7.out
      have hc8 : σ8 c = some { cd with par := some x } := by rw [hσ8]; exact upd_at _ _ _
      have ho8 : ∀ j', j' ≠ x → j' ≠ p → j' ≠ b → j' ≠ c → σ8 j' = σ j' := fun j' h1 h2 h3 h4 => by rw [hσ8, upd_ne _ _ h4]; exact HO7.out j' h1 h2 h3
      obtain ⟨X1, cx, X2, cx2, hax⟩ := St.arr α4 x
      have hx2 := (s8.cells' hx8 hax).2.2.1
      simp only at hx2
      have OX8 := Lib.hid (show (w7.setCell ⟨c, 0, none⟩ (.pointer (some ⟨x, 0, none⟩))).ownsRow B 45 1 (.slice X2 d.ks.length cx2) d.ks.length (ndRow d.ks) from by have h9 := s8.own2' hx8 hax; exact h9)
      have HS8 := Lib.hid s8
      have HX8 := Lib.hid hx8
      have HB8' := Lib.hid hb8
      have HP8 := Lib.hid hp8
      have HC8 := Lib.hid hc8
      have HO8 := Lib.hid ho8
      have HAX := Lib.hid hax
      have L8 := Lib.hid (s8.nd x _ hx8).blk
      have hdk := HDKN.out
      clear s8 b8 hσ8 hx8 hb8 hp8 hc8 ho8 hax HS7 HB7 hc0 hc0f hgkc hb2 HX7 HB7' HP7 HO7 HC7
      generalize w7.setCell ⟨c, 0, none⟩ (.pointer (some ⟨x, 0, none⟩)) = w8 at *
      generalize hndk : d.ks.length = ndk at *
      have HNDK := Lib.hid hndk
      clear hndk
      go_wp2_with (at_builtin; refine Hid.out ?_)
      delta Hid
      refine wpList_appT Try.underlying59 nd_info rfl (by omega) rfl _ _ rfl B (.slice X2 ndk cx2) ndk (ndRow d.ks) rfl (OX8.out.alloc _) (some ⟨w8.heap.size, 0, none⟩) 1 1 [.pointer (some ⟨c, 0, none⟩)] rfl (src_blk (Blk.new _ _ _) rfl) (fun u hu => by simp only [List.mem_singleton] at hu; subst hu; rfl) (by omega) (by omega) (by have := HS8.out.hB; simp; omega) ?_
      intro v9 w9 own9 gr9 ob9
      obtain ⟨A9, c9, rfl, _, _⟩ := own_slice own9
      have LX9 := Lib.hid ((L8.out.alloc (.cells #[.pointer (some ⟨c, 0, none⟩)] 45)).same (gr9.block x (L8.out.alloc (.cells #[.pointer (some ⟨c, 0, none⟩)] 45)).lt (fun e => own_neB (OX8.out.alloc (.cells #[.pointer (some ⟨c, 0, none⟩)] 45)) (L8.out.alloc (.cells #[.pointer (some ⟨c, 0, none⟩)] 45)) (by decide) e.symm)))
      have hq9 := LX9.out.cell 2
      have hq9f := LX9.out.frozen 2
      have F9 := Lib.hid (show ∃ α', St (w9.setCell ⟨x, 2, none⟩ (.slice A9 (ndk + 1) c9)) B H o (upd σ8 x (some { d with es := d.es ++ [sep], ks := d.ks ++ [c] })) α' ∧ Below B w8 (w9.setCell ⟨x, 2, none⟩ (.slice A9 (ndk + 1) c9)) from by
        rw [show ndRow d.ks ++ [Value.pointer (some ⟨c, 0, none⟩)] = ndRow (d.ks ++ [c]) by rw [ndRow_append]; rfl] at own9
        obtain ⟨s9, b9⟩ := HS8.out.setKs HX8.out own9 (grown_less0 gr9) (fun k hk => by rw [HAX.out]; exact ownBlock_slice hk) (fun y hy => by
          rw [HAX.out]
          rcases fresh_of ob9 y hy with h1 | h1
          · exact .inl h1
          · right; simp at h1; omega) (by rw [List.length_append, HNDK.out]; rfl)
        exact ⟨_, s9, b9⟩)
      clear own9 gr9 ob9 hx2 OX8 L8 LX9
      go_wp2_with fail
      obtain ⟨α10, s10, b10⟩ := F9.out
      have hb10 : upd σ8 x (some { d with es := d.es ++ [sep], ks := d.ks ++ [c] }) b = some { db with es := eb } := by rw [upd_ne _ _ HBX.out]; exact HB8'.out
      have CC := delChild_walk s10 hb10 0 (by simp only; rw [HNBK.out]; exact ik1) (by simp only; rw [HNBK.out]; have := HBKN.out; omega) (.pointer (some ⟨H.tb, 0, none⟩))
      have h00 : ((0 : Nat) : Int) = 0 := rfl
      rw [h00] at CC
      have CCH := Lib.hid CC
      have HB10 := Lib.hid (HB8.out.trans b10)
      clear CC h00 s10 b10 hb10 F9 hq9 hq9f
      refine CCH.out.mono ?_
      rintro e11 w11 ⟨rfl, s11, b11⟩
      clear CCH
      have hkb : db.ks.eraseIdx 0 = kb := by rw [HBK.out]; rfl
      simp only [hkb] at s11
      obtain ⟨σ11, hσ11⟩ : ∃ σ11, σ11 = upd (upd σ8 x (some { d with es := d.es ++ [sep], ks := d.ks ++ [c] })) b (some { db with es := eb, ks := kb }) := ⟨_, rfl⟩
      rw [← hσ11] at s11
      have HU := Lib.hid (show ∀ j', j' ≠ x → j' ≠ b → σ11 j' = σ8 j' from fun j' h1 h2 => by rw [hσ11, upd_ne _ _ h2, upd_ne _ _ h1])
      have hlvd : d.lv = db.lv := by have h1 := HBD.out.2; have h2 := HXD.out.2; omega
      have T := borrowR_end (σ' := σ11) SS.out HH.out HB.out HQ.out HKS.out HQE.out HLN.out HF.out (by have h1 := HL.out; have h2 := HNX.out; omega) HM3.out (by have h1 := HBL.out; have h2 := HNB.out; have h3 := HQV.out; omega) HBE.out (ka := d.ks ++ [c]) (kb := kb) (by rw [HBK.out]; simp)
        (.inr ⟨HLV0.out, by have h1 := HDKL.out; have h2 := HNDK.out; have h3 := HNX.out; simp only [List.length_append, List.length_singleton]; omega, by
          have h1 := HBKL.out; have h2 := HNBK.out; have h3 := HNB.out; have h4 := congrArg List.length HBK.out; have h5 := congrArg List.length HBE.out; simp only [List.length_cons] at h4 h5; omega⟩)
        (by rw [hσ11, upd_ne _ _ HBX.out.symm, upd_at, ← HDP.out]) (by rw [hσ11, upd_at, HBD.out.1, hlvd]) (by rw [HU.out p HXP.out.symm HBP.out.symm, HP8.out])
        (fun g hg gd hgd => by
          rcases List.mem_append.1 hg with hg | hg
          · obtain ⟨h1, h2⟩ := SS.out.kidOf HH.out hg hgd
            have h3 : g ≠ x := fun e' => by rw [e', HH.out] at hgd; injection hgd with hgd; subst hgd; omega
            have h4 : g ≠ p := fun e' => by rw [e', HQ.out] at hgd; injection hgd with hgd; subst hgd; have := HXD.out.2; omega
            have h5 : g ≠ b := fun e' => by rw [e', HB.out] at hgd; injection hgd with hgd; subst hgd; omega
            have h6 : g ≠ c := fun e' => by rw [e', HC.out] at hgd; injection hgd with hgd; subst hgd; rw [HCP.out] at h1; injection h1 with h1; exact HBX.out h1
            rw [HU.out g h3 h5, HO8.out g h3 h4 h5 h6, hgd, ← h1]
          · simp only [List.mem_singleton] at hg
            subst hg
            rw [HC.out] at hgd; injection hgd with hgd; subst hgd
            rw [HU.out g HCX.out HCB.out]; exact HC8.out)
        (fun g hg gd hgd => by
          have hg' : g ∈ db.ks := by rw [HBK.out]; exact List.mem_cons_of_mem _ hg
          obtain ⟨h1, h2⟩ := SS.out.kidOf HB.out hg' hgd
          have h3 : g ≠ x := fun e' => by rw [e', HH.out] at hgd; injection hgd with hgd; subst hgd; omega
          have h4 : g ≠ p := fun e' => by rw [e', HQ.out] at hgd; injection hgd with hgd; subst hgd; have := HBD.out.2; omega
          have h5 : g ≠ b := fun e' => by rw [e', HB.out] at hgd; injection hgd with hgd; subst hgd; omega
          have h6 : g ≠ c := fun e' => by
            have := SS.out.nd b db HB.out
            rw [HBK.out, ← e'] at this
            exact (List.nodup_cons.1 this).1 hg
          rw [HU.out g h3 h5, HO8.out g h3 h4 h5 h6, hgd, ← h1])
        (fun j' h1 h2 h3 h4 _ => by
          have h6 : j' ≠ c := fun e' => h4 (by rw [e']; simp)
          rw [HU.out j' h2 h3, HO8.out j' h2 h1 h3 h6])
      have FIN := Lib.hid (show RebPost w B H o σ rt x (.returned (.tuple #[])) w11 from ⟨rfl, σ11, _, rt, by rw [H.eta HR.out]; exact s11, T.2.1, T.1, T.2.2.1, HB10.out.trans b11, fun c' ac => T.2.2.2 c' HLE.out ac⟩)
      clear T s11 b11 hσ11 HU
      go_wp2_with fail
      (try simp only [Exit.inBlock, Exit.then])
      refine bodyPost_ret (results_none rfl _ _ _) rfl ?_
      exact FIN.out
end Go.Proofs.Ytgakapigpiaoiaa.Bt
