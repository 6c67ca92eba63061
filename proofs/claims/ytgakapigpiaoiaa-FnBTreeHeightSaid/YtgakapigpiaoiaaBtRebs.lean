/-
  Several texts as one (BtRebE, BtRebF, BtReb2): each says its own in its remarks.
-/
import Derived.Test.YtgakapigpiaoiaaBtSibs
import Derived.Deep.CutRange
namespace Go.Proofs.Ytgakapigpiaoiaa.Bt
open Go.RowKit Go.Proofs.Ytgakapigpiaoiaa
theorem grown_less {w w2 : World} {X : Obj} {g : Option Nat} (gr : ((w.alloc X).drew).grownBy w2 g) : w.grownBy w2 g :=
  ⟨gr.os, gr.tape, gr.output, by have := gr.size; simp [World.drew] at this; omega, fun k hk hg => (gr.block k (by simp [World.drew]; omega) hg).trans (Below.heap_alloc w X k hk)⟩
theorem below_of_drew {B : Nat} {w w' : World} (b : Below B w.drew w') : Below B w w' := ⟨b.os, b.tape, b.output, b.size, b.block⟩
theorem upd_twice (σ : Store) (i : Nat) (a b : Option ND) : ∀ j, upd σ i b j = upd (upd σ i a) i b j := by
  intro j
  by_cases h1 : j = i
  · subst h1; rw [upd_at, upd_at]
  · rw [upd_ne _ _ h1, upd_ne _ _ h1, upd_ne _ _ h1]
theorem erase_mid {β : Type} (a b : List β) (u : β) : (a ++ u :: b).eraseIdx a.length = a ++ b := by
  induction a with
  | nil => rfl
  | cons y a ih => simp [ih]
set_option maxHeartbeats 8000000 in
set_option maxRecDepth 100000 in
theorem reb_mergeR (lvn : Nat) (IH : RebOk lvn) {w : World} {B x p rt b : Nat} {H : Hd} {o : Ord} {σ : Store} {α : Nat → Arr} {d q db : ND} {k : Int} (s : St w B H o σ α) (ho : o.fine) (hm : 3 ≤ H.m ∧ H.m ≤ 64) (hr : H.root = some rt) (S : Shp σ rt) (h : σ x = some d) (hdp : d.par = some p) (hq : σ p = some q) (hf : Fit0X σ H.m rt x) (hl : (d.es.length : Int) = (H.m + 1) / 2 - 2) (hasc : Asc o (nk σ rt)) {kL kR : List Nat} {eL eR : List En} {sep : En} (hlv : ∀ r, σ rt = some r → r.lv ≤ d.lv + (lvn + 1)) (hrk : rank o (o.rk k) q.es = kL.length)
    (hks : q.ks = kL ++ x :: b :: kR) (hqe : q.es = eL ++ sep :: eR) (hln : kL.length = eL.length) (hb : σ b = some db) (hbl : (db.es.length : Int) ≤ (H.m + 1) / 2 - 1) (hleft : kL = []) :
    Calls Try.prog 68 #[.pointer (some ⟨H.tb, 0, none⟩), .pointer (some ⟨x, 0, none⟩), .iface 3 (.int .i64 k)] w (RebPost w B H o σ rt x) := by
  have MU := Lib.hid (fun (σ' : Store) (T : abs σ' p = .nd ((eL ++ eR).map En.kv) (kL.map (abs σ) ++ absRow (abs σ) (d.ks ++ db.ks) (d.es ++ sep :: db.es) :: kR.map (abs σ)) ∧ UpA σ σ' p q.lv) (c : List Fr) (ac : APath σ rt x c) => mergeR_up (m := H.m) S h hb hq hks hqe hln T (by unfold mnOf; omega) (by unfold mnOf; omega) (.inl hleft) ac)
  have hxp : x ≠ p := fun e => by
    have := (S.kidLv h hdp hq).1
    rw [e, hq] at h
    injection h with h
    subst h
    omega
  have hfp := hf p q hq hxp.symm
  have hplv : q.lv = d.lv + 1 := by have := (S.kidLv h hdp hq).1; omega
  have hqn : q.es.length ≤ 64 := by have := hfp.1; omega
  have hqk : q.ks.length = q.es.length + 1 := S.inner p q hq (by omega)
  have hdn : d.es.length ≤ 64 := by omega
  have hqa := S.ascE hq hasc
  obtain ⟨j, hj⟩ : ∃ j, kL.length = j := ⟨_, rfl⟩
  have hbi : q.ks[j + 1]? = some b := by rw [hks, ← hj, List.getElem?_append_right (by omega)]; simp
  have hsi : q.es[j]? = some sep := by rw [hqe, ← hj, hln, List.getElem?_append_right (by omega)]; simp
  have hbx : b ≠ x := fun e => by
    have := S.nd p q hq
    rw [hks, List.nodup_append] at this
    have := (List.nodup_cons.1 this.2.1).1
    simp [e] at this
  have CME := Lib.hid (fun (wx : World) (sx : St wx B H o σ α) n => minEntries_walk (sx.drewN n) hm)
  have CLS := Lib.hid (fun (wx : World) (sx : St wx B H o σ α) => sib_st (leftSib_none sx ho h hdp hq hqa (by omega) k (by rw [hrk, hleft]; rfl)) sx)
  have CRS := Lib.hid (fun (wx : World) (sx : St wx B H o σ α) => sib_st (rightSib_some sx ho h hdp hq hqa (by omega) k j (by rw [hrk, hj]) hbi) sx)
  have hx1 := (s.cells h).2.1
  have HS := Lib.hid s
  have HH := Lib.hid h
  have HQ := Lib.hid hq
  have HDP := Lib.hid hdp
  have HB := Lib.hid hb
  have SS := Lib.hid S
  have HR := Lib.hid hr
  have HF := Lib.hid hf
  have HL := Lib.hid hl
  have HBL := Lib.hid hbl
  have HM3 := Lib.hid hm
  have HO := Lib.hid ho
  have HAS := Lib.hid hasc
  have HKS := Lib.hid hks
  have HQE := Lib.hid hqe
  have HLN := Lib.hid hln
  have HXP := Lib.hid hxp
  have HBX := Lib.hid hbx
  have HFP := Lib.hid hfp
  have HPL := Lib.hid hplv
  have HQK := Lib.hid hqk
  have HBI := Lib.hid hbi
  have HSI := Lib.hid hsi
  have HIH := Lib.hid IH
  have HLV := Lib.hid hlv
  have HJ := Lib.hid hj
  have hjn : j < q.es.length := (List.getElem?_eq_some_iff.1 hsi).1
  have hd0 : decide ((H.m + 1) / 2 - 1 ≤ (d.es.length : Int)) = false := decide_eq_false (by omega)
  have hd2 : decide ((H.m + 1) / 2 - 1 < (db.es.length : Int)) = false := decide_eq_false (by omega)
  have hnb6 : db.es.length ≤ 64 := by omega
  clear s h hq hdp hb S hr hf hl hbl hm ho hasc hks hqe hln hj hxp hbx hfp hplv hqk hbi hsi hqa hrk hleft IH hlv
  generalize hqv : (H.m + 1) / 2 - 1 = qv at *
  have HQV := Lib.hid hqv
  clear hqv
  have ij0 : (0 : Int) ≤ (j : Int) := by omega
  have ij1 : (j : Int) < (q.es.length : Int) := by omega
  have ij2 : (j : Int) ≤ 64 := by omega
  have ij3 : (0 : Int) ≤ (j : Int) + 1 := by omega
  have ij4 : ((j : Int) + 1).toNat = j + 1 := by omega
  have ij5 : (j : Int) + 1 < (q.es.length : Int) + 1 := by omega
  have ij6 : IntKind.i64.wrap ((j : Int)) = (j : Int) := IntWalk.i64_in _ (by omega)
  have ij7 : IntKind.i64.wrap ((j : Int) + 1 - 1) = (j : Int) := by rw [Int.add_sub_cancel]; exact ij6
  generalize hnx : d.es.length = nx at *
  generalize hnb : db.es.length = nb at *
  generalize hnq : q.es.length = nq2 at *
  have HNX := Lib.hid hnx
  have HNB := Lib.hid hnb
  have HNQ := Lib.hid hnq
  clear hnx hnb hnq
  go_enter Try.func68, Try.ntmps68
  go_wp2_with fail
  go_quiet ((go_at_call 72; exact quiet_left (CME.out _ HS.out _)))
  go_wp2_with fail
  refine (CLS.out _ (HS.out.drewN _)).mono ?_
  rintro e1 w1 ⟨rfl, s1, b1⟩
  have HS1 := Lib.hid s1
  have HB1 := Lib.hid ((Below.drewN' (Below.refl B w) _).trans b1)
  have hb1 := (s1.cells HB.out).2.1
  rw [HNB.out] at hb1
  clear s1 b1 hx1 CLS
  go_wp2_with fail
  go_quiet ((go_at_call 72; exact quiet_left (CME.out _ HS1.out _)))
  go_wp2_with fail
  refine (CRS.out _ (HS1.out.drewN _)).mono ?_
  rintro e2 w2 ⟨rfl, s2, b2⟩
  have HS2 := Lib.hid s2
  have HB2 := Lib.hid ((Below.drewN' HB1.out _).trans b2)
  have hb1 := (s2.cells HB.out).2.1
  rw [HNB.out] at hb1
  clear s2 b2 CRS HS1 HB1
  go_wp2_with fail
  go_quiet ((go_at_call 72; exact quiet_left (CME.out _ HS2.out _)))
  have HS3 := Lib.hid (HS2.out.drewN nq)
  have HB3 := Lib.hid (Below.drewN' HB2.out nq)
  clear HS2 HB2 CME
  generalize w2.drewN nq = w3 at *
  clear hb1
  go_upto_region 22 with fail
  go_cut [237] from 219 to 238 (fun _ wx => ∃ α', St wx B H o (upd σ x (some { d with es := d.es ++ [sep] })) α' ∧ Below B w wx)
  case first =>
    obtain ⟨X1, cx, X2, cx2, hax⟩ := St.arr α x
    have HAX := Lib.hid hax
    have hx0 := (HS3.out.cells HH.out).1
    rw [HDP.out] at hx0
    have hx1 := (HS3.out.cells' HH.out hax).2.1
    rw [HNX.out] at hx1
    simp only [ptr, Option.map_some] at hx0
    obtain ⟨gp, hgp, hgpc, _, hsk, _⟩ := HS3.out.ent HQ.out HSI.out
    have hp1 := (HS3.out.cells HQ.out).2.1
    rw [hgp, HNQ.out] at hp1
    have OW3 := Lib.hid (show ((w3.alloc (.cells #[.pointer (some ⟨sep.b, 0, none⟩)] 62)).drew).ownsRow B 62 1 (.slice X1 nx cx) nx (enRow d.es) from by have := (HS3.out.own1' HH.out hax).alloc (.cells #[.pointer (some ⟨sep.b, 0, none⟩)] 62); rw [HNX.out] at this; exact this)
    have LB3 := Lib.hid (show Blk ((w3.alloc (.cells #[.pointer (some ⟨sep.b, 0, none⟩)] 62)).drew) x 61 _ from (HS3.out.nd x d HH.out).blk.alloc _)
    have hx1A : (w3.alloc (.cells #[.pointer (some ⟨sep.b, 0, none⟩)] 62)).cell? ⟨x, 1, none⟩ = some (.slice X1 nx cx) := by have := ((HS3.out.alloc (.cells #[.pointer (some ⟨sep.b, 0, none⟩)] 62)).cells' HH.out hax).2.1; rwa [HNX.out] at this
    clear hax
    go_region_law
      (first
        | (refine step_app (t := 58) (e := 62) (z := .pointer none) (size := 1) (bytes := 8) Try.underlying58 en_info rfl (by omega) rfl (.tmp 223) (.tmp 235) rfl B (.slice X1 nx cx) nx (enRow d.es) rfl OW3.out (some ⟨w3.heap.size, 0, none⟩) 1 1 [.pointer (some ⟨sep.b, 0, none⟩)] rfl (src_blk (Blk.drew (Blk.new _ _ _)) rfl) (fun u hu => by simp only [List.mem_singleton] at hu; subst hu; rfl) (by omega) (by omega) (by have := HS3.out.hB; simp; omega) ?_
           intro v4 w4 own4 gr4 ob4
           obtain ⟨A4, c4, rfl, _, _⟩ := own_slice own4
           have LX4 := Lib.hid (LB3.out.same (gr4.block x LB3.out.lt (fun e => own_neB OW3.out LB3.out (by decide) e.symm)))
           have hq4 := LX4.out.cell 1
           have hq4f := LX4.out.frozen 1
           have G4 := Lib.hid (And.intro own4 (And.intro gr4 ob4))
           clear own4 gr4 ob4))
    all_goals
      have F4 := Lib.hid (show ∃ α', St (w4.setCell ⟨x, 1, none⟩ (.slice A4 (nx + 1) c4)) B H o (upd σ x (some { d with es := d.es ++ [sep] })) α' ∧ Below B w (w4.setCell ⟨x, 1, none⟩ (.slice A4 (nx + 1) c4)) from by
        obtain ⟨own4, gr4, ob4⟩ := G4.out
        rw [show enRow d.es ++ [Value.pointer (some ⟨sep.b, 0, none⟩)] = enRow (d.es ++ [sep]) by rw [enRow_append]; rfl] at own4
        obtain ⟨s4, b4⟩ := HS3.out.setEs HH.out own4 (grown_less gr4) (fun k hk => by rw [HAX.out]; exact ownBlock_slice hk) (fun y hy => by
          rw [HAX.out]
          rcases fresh_of ob4 y hy with h1 | h1
          · exact .inl h1
          · right; simp [World.drew] at h1; omega) (by rw [List.length_append, HNX.out]; rfl) (fun e he => by
          rcases List.mem_append.1 he with h1 | h1
          · exact .inl h1
          · simp only [List.mem_singleton] at h1; subst h1; exact .inr (HS3.out.en p q _ HQ.out (List.mem_of_getElem? HSI.out)))
        exact ⟨_, s4, HB3.out.trans b4⟩)
      clear hx0 hx1 hx1A hp1 hgpc hsk hgp OW3 LB3 LX4 G4
      go_wp2_with fail
      go_meet
      case rel => exact F4.out
  case rest =>
    obtain ⟨α4, s4, b4⟩ := hcut
    have HS4 := Lib.hid s4
    have HB4 := Lib.hid b4
    clear s4 b4 HS3 HB3
    generalize wc = w4 at *
    go_upto_region 23 with fail
    go_cut [249] from 239 to 250 (fun _ wx => ∃ α', St wx B H o (upd σ x (some { d with es := d.es ++ [sep] ++ db.es })) α' ∧ Below B w wx)
    case first =>
      obtain ⟨A4, c4, X2, cx2, ha4⟩ := St.arr α4 x
      have hx4 : upd σ x (some { d with es := d.es ++ [sep] }) x = some { d with es := d.es ++ [sep] } := upd_at _ _ _
      have hb4 : upd σ x (some { d with es := d.es ++ [sep] }) b = some db := by rw [upd_ne _ _ HBX.out]; exact HB.out
      have hx41 := (HS4.out.cells' hx4 ha4).2.1
      have el4 : (d.es ++ [sep]).length = nx + 1 := by rw [List.length_append, HNX.out]; rfl
      simp only [el4] at hx41
      have hb41 := (HS4.out.cells hb4).2.1
      rw [HNB.out] at hb41
      have OW4 := Lib.hid (show w4.drew.ownsRow B 62 1 (.slice A4 (nx + 1) c4) (nx + 1) (enRow (d.es ++ [sep])) from by have := HS4.out.own1' hx4 ha4; simp only [el4] at this; exact this)
      have OB4 := Lib.hid (show w4.drew.ownsRow B 62 1 (.slice (α4 b).A1 nb (α4 b).c1) nb (enRow db.es) from by have : NdRaw w4 B b db.par (α4 b) db.es.length db.ks.length (enRow db.es) (ndRow db.ks) := HS4.out.nd b db hb4; have := this.own1; rw [HNB.out] at this; exact this)
      have LB4 := Lib.hid (show Blk w4.drew x 61 _ from (HS4.out.nd x _ hx4).blk)
      have HA4 := Lib.hid ha4
      have HX4 := Lib.hid hx4
      have EL4 := Lib.hid el4
      have HS4D := Lib.hid HS4.out.drew
      generalize (α4 b).A1 = Ab at *
      generalize (α4 b).c1 = cb at *
      clear ha4 hx4 hb4 el4
      go_region_law
        (first
          | (refine step_app (t := 58) (e := 62) (z := .pointer none) (size := 1) (bytes := 8) Try.underlying58 en_info rfl (by omega) rfl (.tmp 243) (.tmp 247) rfl B (.slice A4 (nx + 1) c4) (nx + 1) (enRow (d.es ++ [sep])) rfl OW4.out Ab nb cb (enRow db.es) rfl (own_srcAll OB4.out) (enRow_one _) (by omega) (by omega) HS4.out.hB ?_
             intro v6 w6 own6 gr6 ob6
             obtain ⟨A6, c6, rfl, _, _⟩ := own_slice own6
             have LX6 := Lib.hid (LB4.out.same (gr6.block x LB4.out.lt (fun e => own_neB OW4.out LB4.out (by decide) e.symm)))
             have hq6 := LX6.out.cell 1
             have hq6f := LX6.out.frozen 1
             have G6 := Lib.hid (And.intro own6 (And.intro gr6 ob6))
             clear own6 gr6 ob6))
      all_goals
        have F6 := Lib.hid (show ∃ α', St (w6.setCell ⟨x, 1, none⟩ (.slice A6 (nx + 1 + nb) c6)) B H o (upd σ x (some { d with es := d.es ++ [sep] ++ db.es })) α' ∧ Below B w (w6.setCell ⟨x, 1, none⟩ (.slice A6 (nx + 1 + nb) c6)) from by
          obtain ⟨own6, gr6, ob6⟩ := G6.out
          rw [← enRow_append] at own6
          obtain ⟨s6, b6⟩ := HS4D.out.setEs HX4.out own6 gr6 (fun k hk => by rw [HA4.out]; exact ownBlock_slice hk) (fun y hy => by rw [HA4.out]; exact fresh_of ob6 y hy) (by rw [List.length_append, EL4.out, HNB.out]) (fun e he => by
            rcases List.mem_append.1 he with h1 | h1
            · exact .inl h1
            · exact .inr (HS4D.out.en b db e (by rw [upd_ne _ _ HBX.out]; exact HB.out) h1))
          exact ⟨_, s6.congr (upd_twice σ x _ _), HB4.out.trans (below_of_drew b6)⟩)
        clear hx41 hb41 OW4 OB4 LB4 LX6 G6
        go_wp2_with fail
        go_meet
        case rel => exact F6.out
    case rest =>
      obtain ⟨α6, s6, b6⟩ := hcut
      have HS6 := Lib.hid s6
      have HB6 := Lib.hid b6
      clear HS4 HB4
      generalize wc = w6 at *
      obtain ⟨σ6, hσ6⟩ : ∃ σ6, σ6 = upd σ x (some { d with es := d.es ++ [sep] ++ db.es }) := ⟨_, rfl⟩
      have hx6 : σ6 x = some { d with es := d.es ++ [sep] ++ db.es } := by rw [hσ6]; exact upd_at _ _ _
      have ho6 : ∀ j', j' ≠ x → σ6 j' = σ j' := fun j' h1 => by rw [hσ6]; exact upd_ne _ _ h1
      rw [← hσ6] at s6
      have HS6 := Lib.hid s6
      have hp6 : σ6 p = some q := by rw [ho6 p HXP.out.symm]; exact HQ.out
      have hx0 := (s6.cells hx6).1
      simp only [HDP.out, ptr, Option.map_some] at hx0
      obtain ⟨gp, hgp, hgpc, _, hsk, _⟩ := s6.ent hp6 HSI.out
      have hp1 := (s6.cells hp6).2.1
      rw [hgp, HNQ.out] at hp1
      have CD := Lib.hid (delEntry_walk s6 hp6 j (by rw [HNQ.out]; exact hjn) (by rw [HNQ.out]; omega) (.pointer (some ⟨H.tb, 0, none⟩)))
      have HX6 := Lib.hid hx6
      have HO6 := Lib.hid ho6
      have HP6 := Lib.hid hp6
      clear s6 b6 hσ6 hx6 ho6 hp6 hgp
      go_wp2_with fail
      refine CD.out.mono ?_
      rintro e7 w7 ⟨rfl, s7, b7⟩
      clear CD hx0 hgpc hsk hp1
      have hq7 : q.es.eraseIdx j = eL ++ eR := by rw [HQE.out, ← HJ.out, HLN.out]; exact erase_mid eL eR sep
      rw [hq7] at s7
      have hx7 : upd σ6 p (some { q with es := eL ++ eR }) x = some { d with es := d.es ++ [sep] ++ db.es } := by rw [upd_ne _ _ HXP.out]; exact HX6.out
      have hbp : b ≠ p := fun e' => SS.out.not_own HQ.out (by rw [HKS.out, ← e']; simp)
      have hb7 : upd σ6 p (some { q with es := eL ++ eR }) b = some db := by rw [upd_ne _ _ hbp, HO6.out b HBX.out]; exact HB.out
      have hp7 : upd σ6 p (some { q with es := eL ++ eR }) p = some { q with es := eL ++ eR } := upd_at _ _ _
      have hx0 := (s7.cells hx7).1
      simp only [HDP.out, ptr, Option.map_some] at hx0
      obtain ⟨gk, hgk, hgkc, _⟩ := s7.kid hp7 HBI.out
      have hp2 := (s7.cells hp7).2.2.1
      simp only at hp2
      rw [hgk, HQK.out] at hp2
      have hbd := SS.out.kidOf HQ.out (by rw [HKS.out]; simp) HB.out
      have hbkn : db.ks.length ≤ 1000 := by
        rcases Nat.eq_zero_or_pos db.lv with h0 | h0
        · rw [SS.out.leaf b db HB.out h0]; simp
        · have := SS.out.inner b db HB.out h0; have := HNB.out; omega
      have hdkn : d.ks.length ≤ 1000 := by
        rcases Nat.eq_zero_or_pos d.lv with h0 | h0
        · rw [SS.out.leaf x d HH.out h0]; simp
        · have := SS.out.inner x d HH.out h0; have := HNX.out; omega
      have HBD := Lib.hid (show ∀ g ∈ db.ks, ∃ gd, σ g = some gd ∧ gd.par = some b ∧ g ≠ x ∧ g ≠ p ∧ g ≠ b from fun g hg => by
        obtain ⟨gd, h1, h2, h3⟩ := SS.out.kid b db g HB.out hg
        have hxl := SS.out.kidOf HQ.out (by rw [HKS.out]; simp) HH.out
        refine ⟨gd, h1, h2, fun e' => ?_, fun e' => ?_, fun e' => ?_⟩
        · rw [e', HH.out] at h1; injection h1 with h1; subst h1; omega
        · rw [e', HQ.out] at h1; injection h1 with h1; subst h1; omega
        · rw [e', HB.out] at h1; injection h1 with h1; subst h1; omega)
      have CA := Lib.hid (appKids_walk s7 hx7 hb7 HBX.out (fun g hg => by
        obtain ⟨gd, h1, _, h2, h3, _⟩ := HBD.out g hg
        exact ⟨gd, by rw [upd_ne _ _ h3, HO6.out g h2]; exact h1⟩) (SS.out.nd b db HB.out) (SS.out.not_own HB.out) hdkn hbkn (.pointer (some ⟨H.tb, 0, none⟩)))
      have HBP := Lib.hid hbp
      have HB7 := Lib.hid (HB6.out.trans b7)
      have HX7 := Lib.hid hx7
      clear s7 b7 hx7 hb7 hp7 hgk hbd hbkn hdkn hbp hq7 HS6 HB6
      go_wp2_with fail
      refine CA.out.mono ?_
      rintro e8 w8 ⟨rfl, ⟨α8, s8⟩, b8⟩
      clear CA hx0 hgkc hp2
      have hx8 : setPar (upd (upd σ6 p (some { q with es := eL ++ eR })) x (some { d with es := d.es ++ [sep] ++ db.es, ks := d.ks ++ db.ks })) db.ks (some x) x = some { d with es := d.es ++ [sep] ++ db.es, ks := d.ks ++ db.ks } := by
        rw [setPar_out (fun hm => by obtain ⟨_, _, _, h2, _⟩ := HBD.out x hm; exact h2 rfl), upd_at]
      have hp8 : setPar (upd (upd σ6 p (some { q with es := eL ++ eR })) x (some { d with es := d.es ++ [sep] ++ db.es, ks := d.ks ++ db.ks })) db.ks (some x) p = some { q with es := eL ++ eR } := by
        rw [setPar_out (fun hm => by obtain ⟨_, _, _, _, h2, _⟩ := HBD.out p hm; exact h2 rfl), upd_ne _ _ HXP.out.symm, upd_at]
      have hx0 := (s8.cells hx8).1
      simp only [HDP.out, ptr, Option.map_some] at hx0
      have CC := Lib.hid (delChild_walk s8 hp8 (j + 1) (by simp only; rw [HQK.out]; omega) (by simp only; rw [HQK.out]; omega) (.pointer (some ⟨H.tb, 0, none⟩)))
      have HB8' := Lib.hid (HB7.out.trans b8)
      clear s8 b8 HB7
      have hcast : ((j + 1 : Nat) : Int) = (j : Int) + 1 := by omega
      have CC' := CC.out
      rw [hcast] at CC'
      have CC2 := Lib.hid CC'
      clear CC CC' hcast
      go_wp2_with fail
      refine CC2.out.mono ?_
      rintro e9 w9 ⟨rfl, s9, b9⟩
      clear CC2 hx0
      have hq9 : q.ks.eraseIdx (j + 1) = kL ++ x :: kR := by
        rw [HKS.out, ← HJ.out, show kL ++ x :: b :: kR = (kL ++ [x]) ++ b :: kR by simp, show kL.length + 1 = (kL ++ [x]).length by simp, erase_mid]; simp
      simp only [hq9] at s9
      obtain ⟨σ8, hσ8⟩ : ∃ σ8, σ8 = upd (setPar (upd (upd σ6 p (some { q with es := eL ++ eR })) x (some { d with es := d.es ++ [sep] ++ db.es, ks := d.ks ++ db.ks })) db.ks (some x)) p (some { q with es := eL ++ eR, ks := kL ++ x :: kR }) := ⟨_, rfl⟩
      rw [← hσ8] at s9
      have HX8 := Lib.hid (show σ8 x = some ⟨some p, d.es ++ sep :: db.es, d.ks ++ db.ks, d.lv⟩ from by
        rw [hσ8, upd_ne _ _ HXP.out, hx8, ← HDP.out]; simp)
      have HP8 := Lib.hid (show σ8 p = some ⟨q.par, eL ++ eR, kL ++ x :: kR, q.lv⟩ from by rw [hσ8, upd_at])
      have HO8 := Lib.hid (show ∀ j', j' ≠ p → j' ≠ x → j' ∉ db.ks → σ8 j' = σ j' from fun j' h1 h2 h3 => by rw [hσ8, upd_ne _ _ h1, setPar_out h3, upd_ne _ _ h2, upd_ne _ _ h1, HO6.out j' h2])
      have HG8 := Lib.hid (show ∀ g ∈ db.ks, ∀ gd, σ g = some gd → σ8 g = some { gd with par := some x } from fun g hg gd hgd => by
        obtain ⟨_, _, _, h2, h3, _⟩ := HBD.out g hg
        rw [hσ8, upd_ne _ _ h3]
        exact setPar_in hg (by rw [upd_ne _ _ h2, upd_ne _ _ h3, HO6.out g h2]; exact hgd))
      have HS8 := Lib.hid s9
      have HB8 := Lib.hid (HB8'.out.trans b9)
      clear s9 b9 hσ8 hx8 hp8 hq9 HB8' HX6 HO6 HP6 HX7
      generalize w9 = w8 at *
      have GX := Lib.hid HBX.out.symm
      have GP := Lib.hid HBP.out.symm
      have HKX := Lib.hid (show ∀ g ∈ d.ks, ∀ gd, σ g = some gd → gd.par = some x ∧ g ≠ p ∧ g ≠ x ∧ g ≠ b ∧ g ∉ db.ks from fun g hg gd hgd => by
        obtain ⟨h1, h2⟩ := SS.out.kidOf HH.out hg hgd
        have hxl := SS.out.kidOf HQ.out (by rw [HKS.out]; simp) HH.out
        have hbl := SS.out.kidOf HQ.out (by rw [HKS.out]; simp) HB.out
        refine ⟨h1, fun e' => ?_, fun e' => ?_, fun e' => ?_, fun hm => ?_⟩
        · rw [e', HQ.out] at hgd; injection hgd with hgd; subst hgd; omega
        · rw [e', HH.out] at hgd; injection hgd with hgd; subst hgd; omega
        · rw [e', HB.out] at hgd; injection hgd with hgd; subst hgd; omega
        · obtain ⟨gd', h3, h4, _⟩ := HBD.out g hm
          rw [hgd] at h3; injection h3 with h3; subst h3
          rw [h1] at h4; injection h4 with h4; exact HBX.out h4.symm)
      have M80 := Lib.hid (merge_two (σ' := upd σ8 b none) (n := x) (m := b) SS.out HH.out HB.out HQ.out HKS.out HQE.out HLN.out (.inl ⟨rfl, rfl⟩) (by rw [upd_ne _ _ GX.out]; exact HX8.out) (upd_at _ _ _) (by rw [upd_ne _ _ GP.out]; exact HP8.out)
        (fun g hg gd hgd => by
          rcases hg with hg | hg
          · obtain ⟨h1, h2, h3, h4, h5⟩ := HKX.out g hg gd hgd
            rw [upd_ne _ _ h4, HO8.out g h2 h3 h5, hgd, ← h1]
          · obtain ⟨_, _, _, _, _, h4⟩ := HBD.out g hg
            rw [upd_ne _ _ h4]; exact HG8.out g hg gd hgd)
        (fun j' h1 h2 h3 _ h5 => by rw [upd_ne _ _ h3]; exact HO8.out j' h1 h2 h5))
      have M8 := Lib.hid M80.out.1
      have OLD := Lib.hid (show ∀ j' e', σ8 j' = some e' → j' ≠ p → j' ≠ x → j' ≠ b → ∃ e0, σ j' = some e0 ∧ e'.es = e0.es ∧ e'.lv = e0.lv from fun j' e' he h1 h2 h3 => by
        by_cases hm : j' ∈ db.ks
        · obtain ⟨gd, h4, _⟩ := HBD.out j' hm
          rw [HG8.out j' hm gd h4] at he; injection he with he; subst he
          exact ⟨gd, h4, rfl, rfl⟩
        · rw [HO8.out j' h1 h2 hm] at he
          exact ⟨e', he, rfl, rfl⟩)
      have FX := Lib.hid (show (((d.es ++ sep :: db.es).length : Nat) : Int) ≤ H.m - 1 ∧ 1 ≤ (d.es ++ sep :: db.es).length from by
        have h1 := HL.out; have h2 := HBL.out; have h3 := HM3.out; have h4 := HNX.out; have h5 := HNB.out; have h6 := HQV.out
        simp only [List.length_append, List.length_cons]; omega)
      have HRD8 := Lib.hid (show ∃ rd, σ8 rt = some rd from by
        obtain ⟨rd, hrd, hrn⟩ := SS.out.root
        by_cases h1 : rt = p
        · exact ⟨_, by rw [h1]; exact HP8.out⟩
        by_cases h2 : rt = x
        · exact ⟨_, by rw [h2]; exact HX8.out⟩
        by_cases hm : rt ∈ db.ks
        · exact ⟨_, HG8.out rt hm rd hrd⟩
        · exact ⟨rd, by rw [HO8.out rt h1 h2 hm]; exact hrd⟩)
      have REC := Lib.hid (fun (n' : Nat) (hcase : p ≠ rt ∨ (eL ++ eR).length ≠ 0) => show Calls Try.prog 68 #[.pointer (some ⟨H.tb, 0, none⟩), .pointer (some ⟨p, 0, none⟩), .iface 3 (.int .i64 sep.k)] (w8.drewN n') (RebPost w B H o σ rt x) from by
        have T := M8.out
        have hp' : upd σ8 b none p = some ⟨q.par, eL ++ eR, kL ++ x :: kR, q.lv⟩ := by rw [upd_ne _ _ GP.out]; exact HP8.out
        have hA : Asc o (nk (upd σ8 b none) rt) := by rw [T.2.1]; exact HAS.out
        have hu : sep.kv ∈ nk (upd σ8 b none) p := by
          rw [T.1, nk_row SS.out HQ.out]
          exact mem_rowKvs (by rw [HQE.out]; simp) (SS.out.fits HQ.out)
        have hlen : (eL ++ eR).length + 1 = nq2 := by rw [← HNQ.out, HQE.out]; simp; omega
        have hfp := HFP.out
        have hNQ := HNQ.out
        have hQV := HQV.out
        have hM3 := HM3.out
        have C := HIH.out (w8.drewN n') B H o (upd σ8 b none) _ p rt ⟨q.par, eL ++ eR, kL ++ x :: kR, q.lv⟩ sep.k ((HS8.out.drewN n').drop b) HO.out HM3.out HR.out T.2.2 hp' (fun r' hr' => by
            obtain ⟨r0, hr0, hr0p⟩ := SS.out.root
            have hb := HLV.out r0 hr0
            have hpl := HPL.out
            simp only
            by_cases h1 : rt = p
            · rw [h1, hp'] at hr'; injection hr' with hr'; subst hr'; simp only; omega
            · have h2 : rt ≠ x := fun e' => by rw [e', HH.out] at hr0; injection hr0 with hr0; subst hr0; rw [HDP.out] at hr0p; cases hr0p
              have h3 : rt ≠ b := fun e' => by rw [e', upd_at] at hr'; cases hr'
              rw [upd_ne _ _ h3] at hr'
              obtain ⟨e0, h4, _, h5⟩ := OLD.out rt r' hr' h1 h2 h3
              rw [hr0] at h4; injection h4 with h4; subst h4; omega)
          (fun j' e' hj' hne => by
            by_cases h3 : j' = b
            · subst h3; rw [upd_at] at hj'; cases hj'
            rw [upd_ne _ _ h3] at hj'
            by_cases h2 : j' = x
            · subst h2; rw [HX8.out] at hj'; injection hj' with hj'; subst hj'
              have h1 := HL.out; have h2 := HBL.out; have h4 := HNX.out; have h5 := HNB.out; have h6 := HQV.out
              exact ⟨FX.out.1, fun _ => by simp only [List.length_append, List.length_cons]; omega, fun _ => FX.out.2⟩
            obtain ⟨e0, h4, h5, h6⟩ := OLD.out j' e' hj' hne h2 h3
            have := HF.out j' e0 h4 h2
            exact ⟨by rw [h5]; exact this.1, fun hh => by rw [h5]; exact this.2.1 hh, fun hh => by rw [h5]; exact this.2.2 (by rw [← h6]; exact hh)⟩)
          (by simp only; have := hfp.1; omega) (fun hh => by simp only; have := hfp.2.1 hh; omega) (fun hh _ => by simp only; exact hcase.elim (fun h1 => absurd hh h1) (fun h1 => by omega)) hA (sits_of T.2.2 hA hp' hu)
        refine C.mono ?_
        rintro e' w' ⟨rfl, σ2, α2, rt2, s2, S2, k2, f2, b2, ab2⟩
        exact ⟨rfl, σ2, α2, rt2, s2, S2, k2.trans T.2.1, f2, (Below.drewN' HB8.out n').trans b2, fun c' ac => by
          obtain ⟨c2, h1, h2, _⟩ := MU.out _ M80.out.2.1 c' ac
          rw [h2 hcase]; exact ab2 c2 h1⟩)
      clear HS HBD HO8 HG8 HKX HB
      have T := M8.out
      have hp8 := HP8.out
      have hx0 := fun n => ((HS8.out.drewN n).cells HX8.out).1
      have hh0 := fun n => (HS8.out.drewN n).hcells.1
      have hp1 := fun n => ((HS8.out.drewN n).cells HP8.out).2.1
      simp only [HR.out, ptr, Option.map_some] at hx0 hh0
      have hx0' := hx0 0
      have hh0' := hh0 0
      have hp1' := hp1 0
      simp only [World.drewN_zero] at hx0' hh0' hp1'
      by_cases hpr : p = rt
      · subst hpr
        have qs := btPtr_same
        by_cases he0 : (eL ++ eR).length = 0
        ·
          have heL : eL = [] ∧ eR = [] := List.append_eq_nil_iff.1 (List.eq_nil_of_length_eq_zero he0)
          have hkL : kL = [] := List.eq_nil_of_length_eq_zero (by rw [HLN.out, heL.1]; rfl)
          have hkR : kR = [] := by
            have := HQK.out
            rw [HKS.out, ← HNQ.out, HQE.out, hkL, heL.1, heL.2] at this
            simp at this
            exact this
          have hxg : x ≠ b := GX.out
          have hpg : p ≠ b := GP.out
          have SK0 := Lib.hid (shrink_two (σ := upd σ8 b none) (σ' := upd (upd (upd σ8 x (some ⟨none, (d.es ++ sep :: db.es), (d.ks ++ db.ks), d.lv⟩)) b none) p none) (p := p) (i := x) T.2.2 (by rw [upd_ne _ _ hpg]; exact hp8) (by simp only; rw [heL.1, heL.2]; rfl) (by simp only; rw [hkL, hkR]; rfl) (by rw [upd_ne _ _ hxg]; exact HX8.out) (upd_at _ _ _)
            (by rw [upd_ne _ _ HXP.out, upd_ne _ _ hxg, upd_at]) (fun j' h1 h2 => by
              rw [upd_ne _ _ h1]
              by_cases hj' : j' = b
              · subst hj'; rw [upd_at, upd_at]
              · rw [upd_ne _ _ hj', upd_ne _ _ h2, upd_ne _ _ hj']))
          have SK := SK0.out.1
          have SA := SK0.out.2
          have FIN := Lib.hid (fun n => show RebPost w B H o σ p x (.returned (.tuple #[])) (((w8.drewN n).setCell ⟨H.tb, 0, none⟩ (.pointer (some ⟨x, 0, none⟩))).setCell ⟨x, 0, none⟩ (.pointer none)) from by
            have S8 := HS8.out.drewN n
            have S9 := S8.head (H' := { H with root := some x }) ((Only.refl [H.tb] (w8.drewN n)).setCell (p := ⟨H.tb, 0, none⟩) (.inl (by simp)) (.pointer (some ⟨x, 0, none⟩))) rfl rfl (by have := S8.hd.set_ 0 (.pointer (some ⟨x, 0, none⟩)); simpa [ptr] using this)
            have S10 := ((S9.setPar HX8.out none).drop b).drop p
            simp only [ptr, Option.map_none] at S10
            exact ⟨rfl, _, _, x, S10, SK.1, SK.2.trans T.2.1, (fun j' e' hj' => by
              by_cases h1 : j' = p
              · subst h1; rw [upd_at] at hj'; cases hj'
              rw [upd_ne _ _ h1] at hj'
              by_cases h2 : j' = b
              · subst h2; rw [upd_at] at hj'; cases hj'
              rw [upd_ne _ _ h2] at hj'
              by_cases h3 : j' = x
              · subst h3; rw [upd_at] at hj'; injection hj' with hj'; subst hj'; exact ⟨FX.out.1, fun hh => absurd rfl hh, fun _ => FX.out.2⟩
              rw [upd_ne _ _ h3] at hj'
              obtain ⟨e0, h4, h5, h6⟩ := OLD.out j' e' hj' h1 h3 h2
              have := HF.out j' e0 h4 h3
              exact ⟨by rw [h5]; exact this.1, fun _ => by rw [h5]; exact this.2.1 h1, fun hh => by rw [h5]; exact this.2.2 (by rw [← h6]; exact hh)⟩), ((Below.drewN' HB8.out n).setCell (p := ⟨H.tb, 0, none⟩) HS8.out.hdB _).setCell (p := ⟨x, 0, none⟩) (HS8.out.nd x _ HX8.out).ge _, fun c' ac => by
              obtain ⟨c2, _, _, h3⟩ := MU.out _ M80.out.2.1 c' ac
              rw [h3 rfl heL.1 heL.2, ← M80.out.2.2]
              exact SA⟩)
          have hx9 := fun n => show ((w8.drewN n).setCell ⟨H.tb, 0, none⟩ (.pointer (some ⟨x, 0, none⟩))).cell? ⟨x, 0, none⟩ = some (.pointer (some ⟨p, 0, none⟩)) from by
            have S8 := HS8.out.drewN n
            have := ((S8.nd x _ HX8.out).blk.far (p := ⟨H.tb, 0, none⟩) (fun e => Blk.ne_ (S8.nd x _ HX8.out).blk S8.hd (by decide) e) (.pointer (some ⟨x, 0, none⟩))).cell 0
            simpa [ptr] using this
          have hh0f := HS8.out.hd.frozen 0
          simp only [he0] at hp1' hp1
          clear SK SA T hp8 hkL hkR heL he0
          go_wp2_with fail
          go_quiet (fail)
          have HX9 := hx9 nq
          have HXA := hx0 nq
          have HHA := hh0 nq
          have HHF : (w8.drewN nq).frozen? ⟨H.tb, 0, none⟩ = false := hh0f
          have HXF : ((w8.drewN nq).setCell ⟨H.tb, 0, none⟩ (.pointer (some ⟨x, 0, none⟩))).frozen? ⟨x, 0, none⟩ = false := ((HS8.out.drewN nq).nd x _ HX8.out).blk.far (p := ⟨H.tb, 0, none⟩) (fun e => Blk.ne_ (HS8.out.nd x _ HX8.out).blk HS8.out.hd (by decide) e) (.pointer (some ⟨x, 0, none⟩)) |>.frozen 0
          have FN := Lib.hid (FIN.out nq)
          clear hx9 hh0f hx0 hh0 hp1 hx0' hh0' hp1' FIN
          generalize w8.drewN nq = w9 at *
          go_wp2_with fail
          (try simp only [Exit.inBlock, Exit.then])
          refine bodyPost_ret (results_none rfl _ _ _) rfl ?_
          exact ⟨rfl, FN.out.2⟩
        · have hb0 : (((eL ++ eR).length : Int) == 0) = false := by simp only [beq_eq_false_iff_ne, ne_eq]; omega
          have CI := Lib.hid (fun n : Nat => REC.out n (Or.inr he0))
          simp only at hp1' hp1
          generalize (eL ++ eR).length = nn at *
          clear T hp8 hx0 hh0 hp1
          go_wp2_with fail
          go_quiet (fail)
          go_wp2_with fail
          refine (CI.out _).mono ?_
          rintro e9 w9 ⟨rfl, hp9⟩
          have F := Lib.hid hp9
          clear hp9 CI
          go_wp2_with fail
          go_end0
          exact ⟨rfl, F.out⟩
      · obtain ⟨rd, hrd⟩ := HRD8.out
        have qs := fun n => btPtr_other (w8.drewN n) hpr (i := p) (j := rt) ((HS8.out.drewN n).nd p _ HP8.out).blk ((HS8.out.drewN n).nd rt rd hrd).blk
        have qs' := qs 0
        simp only [World.drewN_zero] at qs'
        have CI := Lib.hid (fun n : Nat => REC.out n (Or.inl hpr))
        clear T hp8 hx0 hh0 hp1
        go_wp2_with fail
        go_quiet (fail)
        go_wp2_with fail
        refine (CI.out _).mono ?_
        rintro e9 w9 ⟨rfl, hp9⟩
        have F := Lib.hid hp9
        clear hp9 CI
        go_wp2_with fail
        go_end0
        exact ⟨rfl, F.out⟩
end Go.Proofs.Ytgakapigpiaoiaa.Bt

namespace Go.Proofs.Ytgakapigpiaoiaa.Bt
open Go.RowKit Go.Proofs.Ytgakapigpiaoiaa
set_option maxHeartbeats 8000000 in
set_option maxRecDepth 100000 in
theorem reb_mergeL (lvn : Nat) (IH : RebOk lvn) {w : World} {B x p rt b : Nat} {H : Hd} {o : Ord} {σ : Store} {α : Nat → Arr} {d q db : ND} {k : Int} (s : St w B H o σ α) (ho : o.fine) (hm : 3 ≤ H.m ∧ H.m ≤ 64) (hr : H.root = some rt) (S : Shp σ rt) (h : σ x = some d) (hdp : d.par = some p) (hq : σ p = some q) (hf : Fit0X σ H.m rt x) (hl : (d.es.length : Int) = (H.m + 1) / 2 - 2) (hasc : Asc o (nk σ rt)) {kL kR : List Nat} {eL eR : List En} {sep : En} (hlv : ∀ r, σ rt = some r → r.lv ≤ d.lv + (lvn + 1)) (hrk : rank o (o.rk k) q.es = kL.length + 1)
    (hks : q.ks = kL ++ b :: x :: kR) (hqe : q.es = eL ++ sep :: eR) (hln : kL.length = eL.length) (hb : σ b = some db) (hbl : (db.es.length : Int) ≤ (H.m + 1) / 2 - 1) (hright : kR = []) :
    Calls Try.prog 68 #[.pointer (some ⟨H.tb, 0, none⟩), .pointer (some ⟨x, 0, none⟩), .iface 3 (.int .i64 k)] w (RebPost w B H o σ rt x) := by
  have MU := Lib.hid (fun (σ' : Store) (T : abs σ' p = .nd ((eL ++ eR).map En.kv) (kL.map (abs σ) ++ absRow (abs σ) (db.ks ++ d.ks) (db.es ++ sep :: d.es) :: kR.map (abs σ)) ∧ UpA σ σ' p q.lv) (c : List Fr) (ac : APath σ rt x c) => mergeL_up (m := H.m) S h hb hq hks hqe hln hright T (by unfold mnOf; omega) (by unfold mnOf; omega) ac)
  have hxp : x ≠ p := fun e => by
    have := (S.kidLv h hdp hq).1
    rw [e, hq] at h
    injection h with h
    subst h
    omega
  have hfp := hf p q hq hxp.symm
  have hplv : q.lv = d.lv + 1 := by have := (S.kidLv h hdp hq).1; omega
  have hqn : q.es.length ≤ 64 := by have := hfp.1; omega
  have hqk : q.ks.length = q.es.length + 1 := S.inner p q hq (by omega)
  have hdn : d.es.length ≤ 64 := by omega
  have hqa := S.ascE hq hasc
  obtain ⟨j, hj⟩ : ∃ j, kL.length = j := ⟨_, rfl⟩
  have hbi : q.ks[j]? = some b := by rw [hks, ← hj, List.getElem?_append_right (by omega)]; simp
  have hsi : q.es[j]? = some sep := by rw [hqe, ← hj, hln, List.getElem?_append_right (by omega)]; simp
  have hbx : b ≠ x := fun e => by
    have := S.nd p q hq
    rw [hks, List.nodup_append] at this
    have := (List.nodup_cons.1 this.2.1).1
    simp [e] at this
  have CME := Lib.hid (fun (wx : World) (sx : St wx B H o σ α) n => minEntries_walk (sx.drewN n) hm)
  have CLS := Lib.hid (fun (wx : World) (sx : St wx B H o σ α) => sib_st (leftSib_some sx ho h hdp hq hqa (by omega) k j (by rw [hrk, hj]) hbi) sx)
  have CRS := Lib.hid (fun (wx : World) (sx : St wx B H o σ α) => sib_st (rightSib_none sx ho h hdp hq hqa (by omega) k (j + 1) (by rw [hrk, hj]) (by rw [hks, hright]; simp; omega)) sx)
  have hx1 := (s.cells h).2.1
  have HS := Lib.hid s
  have HH := Lib.hid h
  have HQ := Lib.hid hq
  have HDP := Lib.hid hdp
  have HB := Lib.hid hb
  have SS := Lib.hid S
  have HR := Lib.hid hr
  have HF := Lib.hid hf
  have HL := Lib.hid hl
  have HBL := Lib.hid hbl
  have HM3 := Lib.hid hm
  have HO := Lib.hid ho
  have HAS := Lib.hid hasc
  have HKS := Lib.hid hks
  have HQE := Lib.hid hqe
  have HLN := Lib.hid hln
  have HXP := Lib.hid hxp
  have HBX := Lib.hid hbx
  have HFP := Lib.hid hfp
  have HPL := Lib.hid hplv
  have HQK := Lib.hid hqk
  have HBI := Lib.hid hbi
  have HSI := Lib.hid hsi
  have HIH := Lib.hid IH
  have HLV := Lib.hid hlv
  have HJ := Lib.hid hj
  have hjn : j < q.es.length := (List.getElem?_eq_some_iff.1 hsi).1
  have hd0 : decide ((H.m + 1) / 2 - 1 ≤ (d.es.length : Int)) = false := decide_eq_false (by omega)
  have hd2 : decide ((H.m + 1) / 2 - 1 < (db.es.length : Int)) = false := decide_eq_false (by omega)
  have hnb6 : db.es.length ≤ 64 := by omega
  clear s h hq hdp hb S hr hf hl hbl hm ho hasc hks hqe hln hj hxp hbx hfp hplv hqk hbi hsi hqa hrk hright IH hlv
  generalize hqv : (H.m + 1) / 2 - 1 = qv at *
  have HQV := Lib.hid hqv
  clear hqv
  have ij0 : (0 : Int) ≤ (j : Int) := by omega
  have ij1 : (j : Int) < (q.es.length : Int) := by omega
  have ij2 : (j : Int) ≤ 64 := by omega
  have ij3 : (0 : Int) ≤ (j : Int) + 1 := by omega
  have ij4 : ((j : Int) + 1).toNat = j + 1 := by omega
  have ij5 : (j : Int) + 1 < (q.es.length : Int) + 1 := by omega
  have ij6 : IntKind.i64.wrap ((j : Int)) = (j : Int) := IntWalk.i64_in _ (by omega)
  have ij7 : IntKind.i64.wrap ((j : Int) + 1 - 1) = (j : Int) := by rw [Int.add_sub_cancel]; exact ij6
  generalize hnx : d.es.length = nx at *
  generalize hnb : db.es.length = nb at *
  generalize hnq : q.es.length = nq2 at *
  have HNX := Lib.hid hnx
  have HNB := Lib.hid hnb
  have HNQ := Lib.hid hnq
  clear hnx hnb hnq
  go_enter Try.func68, Try.ntmps68
  go_wp2_with fail
  go_quiet ((go_at_call 72; exact quiet_left (CME.out _ HS.out _)))
  go_wp2_with fail
  refine (CLS.out _ (HS.out.drewN _)).mono ?_
  rintro e1 w1 ⟨rfl, s1, b1⟩
  have HS1 := Lib.hid s1
  have HB1 := Lib.hid ((Below.drewN' (Below.refl B w) _).trans b1)
  have hb1 := (s1.cells HB.out).2.1
  rw [HNB.out] at hb1
  clear s1 b1 hx1 CLS
  go_wp2_with fail
  go_quiet ((go_at_call 72; exact quiet_left (CME.out _ HS1.out _)))
  go_wp2_with fail
  refine (CRS.out _ (HS1.out.drewN _)).mono ?_
  rintro e2 w2 ⟨rfl, s2, b2⟩
  have HS2 := Lib.hid s2
  have HB2 := Lib.hid ((Below.drewN' HB1.out _).trans b2)
  have hb1 := (s2.cells HB.out).2.1
  rw [HNB.out] at hb1
  clear s2 b2 CRS HS1 HB1
  go_wp2_with fail
  go_quiet ((go_at_call 72; exact quiet_left (CME.out _ HS2.out _)))
  have HS3 := Lib.hid (HS2.out.drewN nq)
  have HB3 := Lib.hid (Below.drewN' HB2.out nq)
  clear HS2 HB2 CME
  generalize w2.drewN nq = w3 at *
  clear hb1
  have OB3 := Lib.hid (show w3.ownsRow B 62 1 (.slice (α b).A1 nb (α b).c1) nb (enRow db.es) from by have : NdRaw w3 B b db.par (α b) db.es.length db.ks.length (enRow db.es) (ndRow db.ks) := HS3.out.nd b db HB.out; have := this.own1; rw [HNB.out] at this; exact this)
  have hb1 := (HS3.out.cells HB.out).2.1
  rw [HNB.out] at hb1
  generalize (α b).A1 = Ab at *
  generalize (α b).c1 = cb at *
  go_wp2_with (at_builtin; refine Hid.out ?_)
  delta Hid
  refine wpList_appT Try.underlying58 en_info rfl (by omega) rfl _ _ rfl B (.slice none 0 0) 0 [] rfl (own_nil w3 B _) Ab nb cb (enRow db.es) rfl (own_srcAll OB3.out) (enRow_one _) (by omega) (by omega) HS3.out.hB ?_
  intro v4 w4 own4 gr4 ob4
  simp only [Nat.zero_add, List.nil_append] at own4
  obtain ⟨A4, c4, rfl, _, _⟩ := own_slice own4
  have gr4' : w3.grownBy w4 none := gr4
  have s4 := HS3.out.same (grown_only gr4' (fun k hk => by cases hk))
  have fr4 : ∀ y, A4 = some y → w3.heap.size ≤ y.block := by
    intro y hy
    subst hy
    rcases ob4 with e | e
    · simp [Value.ownBlock] at e
    · simp only [Value.ownBlock, Option.some.injEq] at e; omega
  have hx0 := (s4.cells HH.out).1
  rw [HDP.out] at hx0
  simp only [ptr, Option.map_some] at hx0
  obtain ⟨gp, hgp, hgpc, _, _⟩ := s4.ent HQ.out HSI.out
  have hp1 := (s4.cells HQ.out).2.1
  rw [hgp, HNQ.out] at hp1
  have HS4 := Lib.hid s4
  have OW4 := Lib.hid own4
  have GZ4 := Lib.hid gr4'
  have FR4 := Lib.hid fr4
  clear own4 gr4 ob4 gr4' s4 fr4 hb1 OB3 hgp
  go_wp2_with (at_builtin; refine Hid.out ?_)
  delta Hid
  refine wpList_appT Try.underlying58 en_info rfl (by omega) rfl _ _ rfl B (.slice A4 nb c4) nb (enRow db.es) rfl (OW4.out.alloc _) (some ⟨w4.heap.size, 0, none⟩) 1 1 [.pointer (some ⟨sep.b, 0, none⟩)] rfl (src_blk (Blk.new _ _ _) rfl) (fun u hu => by simp only [List.mem_singleton] at hu; subst hu; rfl) (by omega) (by omega) (by have := HS4.out.hB; simp; omega) ?_
  intro v5 w5 own5 gr5 ob5
  rw [show enRow db.es ++ [Value.pointer (some ⟨sep.b, 0, none⟩)] = enRow (db.es ++ [sep]) by rw [enRow_append]; rfl] at own5
  obtain ⟨A5, c5, rfl, _, _⟩ := own_slice own5
  have gr35 : w3.grownBy w5 none := ⟨gr5.os.trans GZ4.out.os, gr5.tape.trans GZ4.out.tape, gr5.output.trans GZ4.out.output, by have := GZ4.out.size; have := gr5.size; simp at this; omega, fun k hk _ => (gr5.block k (by have := GZ4.out.size; simp; omega) (fun e => by
    obtain ⟨y, hy, hyb⟩ := ownBlock_slice e.symm
    have := FR4.out y hy
    omega)).trans ((Below.heap_alloc w4 _ k (by have := GZ4.out.size; omega)).trans (GZ4.out.block k hk (by simp)))⟩
  have fr5 : ∀ y, A5 = some y → w3.heap.size ≤ y.block := by
    intro y hy
    rcases fresh_of ob5 y hy with ⟨z, hz, hzb⟩ | h1
    · have := FR4.out z hz; omega
    · have := GZ4.out.size; simp at h1; omega
  have s5 := HS3.out.same (grown_only gr35 (fun k hk => by cases hk))
  obtain ⟨X1, cx, X2, cx2, hax⟩ := St.arr α x
  have hx1 := (s5.cells' HH.out hax).2.1
  rw [HNX.out] at hx1
  have HAX := Lib.hid hax
  have HS5 := Lib.hid s5
  have OW5 := Lib.hid own5
  have GZ5 := Lib.hid gr35
  have FR5 := Lib.hid fr5
  have OX5 := Lib.hid (show w5.ownsRow B 62 1 (.slice X1 nx cx) nx (enRow d.es) from by have := s5.own1' HH.out hax; rw [HNX.out] at this; exact this)
  clear own5 gr5 ob5 gr35 s5 fr5 hx0 hp1 hgpc HS4 OW4 GZ4 FR4 hax
  go_wp2_with (at_builtin; refine Hid.out ?_)
  delta Hid
  refine wpList_appT Try.underlying58 en_info rfl (by omega) rfl _ _ rfl B (.slice A5 (nb + 1) c5) (nb + 1) (enRow (db.es ++ [sep])) rfl OW5.out X1 nx cx (enRow d.es) rfl (own_srcAll OX5.out) (enRow_one _) (by omega) (by omega) HS5.out.hB ?_
  intro v6 w6 own6 gr6 ob6
  rw [← enRow_append] at own6
  obtain ⟨A6, c6, rfl, _, _⟩ := own_slice own6
  have gr36 : w3.grownBy w6 none := ⟨gr6.os.trans GZ5.out.os, gr6.tape.trans GZ5.out.tape, gr6.output.trans GZ5.out.output, Nat.le_trans GZ5.out.size gr6.size, fun k hk _ => (gr6.block k (Nat.lt_of_lt_of_le hk GZ5.out.size) (fun e => by
    obtain ⟨y, hy, hyb⟩ := ownBlock_slice e.symm
    have := FR5.out y hy
    omega)).trans (GZ5.out.block k hk (by simp))⟩
  obtain ⟨s6, b6⟩ := HS3.out.setEs HH.out own6 gr36 (fun k hk => by cases hk) (fun y hy => .inr (by
    rcases fresh_of ob6 y hy with ⟨z, hz, hzb⟩ | h1
    · have := FR5.out z hz; omega
    · have := GZ5.out.size; omega)) (by rw [List.length_append, List.length_append, HNB.out, HNX.out]; rfl) (fun e he => by
    rcases List.mem_append.1 he with h1 | h1
    · rcases List.mem_append.1 h1 with h2 | h2
      · exact .inr (HS3.out.en b db e HB.out h2)
      · simp only [List.mem_singleton] at h2; subst h2; exact .inr (HS3.out.en p q _ HQ.out (List.mem_of_getElem? HSI.out))
    · exact .inl h1)
  have lx6 := (HS3.out.nd x d HH.out).blk.same (gr36.block x (HS3.out.nd x d HH.out).lt (by simp))
  have hq6 := lx6.cell 1
  have hq6f := lx6.frozen 1
  have HB6 := Lib.hid (HB3.out.trans b6)
  obtain ⟨α6, hα6⟩ : ∃ α6, α6 = updA α x { α x with A1 := A6, c1 := c6 } := ⟨_, rfl⟩
  rw [← hα6] at s6
  obtain ⟨σ6, hσ6⟩ : ∃ σ6, σ6 = upd σ x (some { d with es := db.es ++ [sep] ++ d.es }) := ⟨_, rfl⟩
  have hx6 : σ6 x = some { d with es := db.es ++ [sep] ++ d.es } := by rw [hσ6]; exact upd_at _ _ _
  have ho6 : ∀ j', j' ≠ x → σ6 j' = σ j' := fun j' h1 => by rw [hσ6]; exact upd_ne _ _ h1
  rw [← hσ6] at s6
  have HS6 := Lib.hid s6
  have hp6 : σ6 p = some q := by rw [ho6 p HXP.out.symm]; exact HQ.out
  have hx0 := (s6.cells hx6).1
  simp only [HDP.out, ptr, Option.map_some] at hx0
  obtain ⟨gp, hgp, hgpc, _, hsk, _⟩ := s6.ent hp6 HSI.out
  have hp1 := (s6.cells hp6).2.1
  rw [hgp, HNQ.out] at hp1
  have CD := Lib.hid (delEntry_walk s6 hp6 j (by rw [HNQ.out]; exact hjn) (by rw [HNQ.out]; omega) (.pointer (some ⟨H.tb, 0, none⟩)))
  have HX6 := Lib.hid hx6
  have HO6 := Lib.hid ho6
  have HP6 := Lib.hid hp6
  clear s6 b6 hσ6 hx6 ho6 hp6 hgp own6 gr6 ob6 gr36 lx6 OW5 OX5 GZ5 FR5 HS5 HS3 HB3 hα6 hx1
  go_wp2_with fail
  refine CD.out.mono ?_
  rintro e7 w7 ⟨rfl, s7, b7⟩
  clear CD hx0 hgpc hsk hp1
  have hq7 : q.es.eraseIdx j = eL ++ eR := by rw [HQE.out, ← HJ.out, HLN.out]; exact erase_mid eL eR sep
  rw [hq7] at s7
  have hx7 : upd σ6 p (some { q with es := eL ++ eR }) x = some { d with es := db.es ++ [sep] ++ d.es } := by rw [upd_ne _ _ HXP.out]; exact HX6.out
  have hbp : b ≠ p := fun e' => SS.out.not_own HQ.out (by rw [HKS.out, ← e']; simp)
  have hb7 : upd σ6 p (some { q with es := eL ++ eR }) b = some db := by rw [upd_ne _ _ hbp, HO6.out b HBX.out]; exact HB.out
  have hp7 : upd σ6 p (some { q with es := eL ++ eR }) p = some { q with es := eL ++ eR } := upd_at _ _ _
  have hx0 := (s7.cells hx7).1
  simp only [HDP.out, ptr, Option.map_some] at hx0
  obtain ⟨gk, hgk, hgkc, _⟩ := s7.kid hp7 HBI.out
  have hp2 := (s7.cells hp7).2.2.1
  simp only at hp2
  rw [hgk, HQK.out] at hp2
  have hbd := SS.out.kidOf HQ.out (by rw [HKS.out]; simp) HB.out
  have hbkn : db.ks.length ≤ 1000 := by
    rcases Nat.eq_zero_or_pos db.lv with h0 | h0
    · rw [SS.out.leaf b db HB.out h0]; simp
    · have := SS.out.inner b db HB.out h0; have := HNB.out; omega
  have hdkn : d.ks.length ≤ 1000 := by
    rcases Nat.eq_zero_or_pos d.lv with h0 | h0
    · rw [SS.out.leaf x d HH.out h0]; simp
    · have := SS.out.inner x d HH.out h0; have := HNX.out; omega
  have HBD := Lib.hid (show ∀ g ∈ db.ks, ∃ gd, σ g = some gd ∧ gd.par = some b ∧ g ≠ x ∧ g ≠ p ∧ g ≠ b from fun g hg => by
    obtain ⟨gd, h1, h2, h3⟩ := SS.out.kid b db g HB.out hg
    have hxl := SS.out.kidOf HQ.out (by rw [HKS.out]; simp) HH.out
    refine ⟨gd, h1, h2, fun e' => ?_, fun e' => ?_, fun e' => ?_⟩
    · rw [e', HH.out] at h1; injection h1 with h1; subst h1; omega
    · rw [e', HQ.out] at h1; injection h1 with h1; subst h1; omega
    · rw [e', HB.out] at h1; injection h1 with h1; subst h1; omega)
  have CA := Lib.hid (preKids_walk s7 hx7 hb7 HBX.out (fun g hg => by
    obtain ⟨gd, h1, _, h2, h3, _⟩ := HBD.out g hg
    exact ⟨gd, by rw [upd_ne _ _ h3, HO6.out g h2]; exact h1⟩) (SS.out.nd b db HB.out) (SS.out.not_own HB.out) hdkn hbkn (.pointer (some ⟨H.tb, 0, none⟩)))
  have HBP := Lib.hid hbp
  have HB7 := Lib.hid (HB6.out.trans b7)
  have HX7 := Lib.hid hx7
  clear s7 b7 hx7 hb7 hp7 hgk hbd hbkn hdkn hbp hq7 HS6 HB6
  go_wp2_with fail
  refine CA.out.mono ?_
  rintro e8 w8 ⟨rfl, ⟨α8, s8⟩, b8⟩
  clear CA hx0 hgkc hp2
  have hx8 : setPar (upd (upd σ6 p (some { q with es := eL ++ eR })) x (some { d with es := db.es ++ [sep] ++ d.es, ks := db.ks ++ d.ks })) db.ks (some x) x = some { d with es := db.es ++ [sep] ++ d.es, ks := db.ks ++ d.ks } := by
    rw [setPar_out (fun hm => by obtain ⟨_, _, _, h2, _⟩ := HBD.out x hm; exact h2 rfl), upd_at]
  have hp8 : setPar (upd (upd σ6 p (some { q with es := eL ++ eR })) x (some { d with es := db.es ++ [sep] ++ d.es, ks := db.ks ++ d.ks })) db.ks (some x) p = some { q with es := eL ++ eR } := by
    rw [setPar_out (fun hm => by obtain ⟨_, _, _, _, h2, _⟩ := HBD.out p hm; exact h2 rfl), upd_ne _ _ HXP.out.symm, upd_at]
  have hx0 := (s8.cells hx8).1
  simp only [HDP.out, ptr, Option.map_some] at hx0
  have CC := Lib.hid (delChild_walk s8 hp8 j (by simp only; rw [HQK.out]; omega) (by simp only; rw [HQK.out]; omega) (.pointer (some ⟨H.tb, 0, none⟩)))
  have HB8' := Lib.hid (HB7.out.trans b8)
  clear s8 b8 HB7
  have CC2 := Lib.hid CC.out
  clear CC
  go_wp2_with fail
  refine CC2.out.mono ?_
  rintro e9 w9 ⟨rfl, s9, b9⟩
  clear CC2 hx0
  have hq9 : q.ks.eraseIdx j = kL ++ x :: kR := by rw [HKS.out, ← HJ.out, erase_mid]
  simp only [hq9] at s9
  obtain ⟨σ8, hσ8⟩ : ∃ σ8, σ8 = upd (setPar (upd (upd σ6 p (some { q with es := eL ++ eR })) x (some { d with es := db.es ++ [sep] ++ d.es, ks := db.ks ++ d.ks })) db.ks (some x)) p (some { q with es := eL ++ eR, ks := kL ++ x :: kR }) := ⟨_, rfl⟩
  rw [← hσ8] at s9
  have HX8 := Lib.hid (show σ8 x = some ⟨some p, db.es ++ sep :: d.es, db.ks ++ d.ks, d.lv⟩ from by
    rw [hσ8, upd_ne _ _ HXP.out, hx8, ← HDP.out]; simp)
  have HP8 := Lib.hid (show σ8 p = some ⟨q.par, eL ++ eR, kL ++ x :: kR, q.lv⟩ from by rw [hσ8, upd_at])
  have HO8 := Lib.hid (show ∀ j', j' ≠ p → j' ≠ x → j' ∉ db.ks → σ8 j' = σ j' from fun j' h1 h2 h3 => by rw [hσ8, upd_ne _ _ h1, setPar_out h3, upd_ne _ _ h2, upd_ne _ _ h1, HO6.out j' h2])
  have HG8 := Lib.hid (show ∀ g ∈ db.ks, ∀ gd, σ g = some gd → σ8 g = some { gd with par := some x } from fun g hg gd hgd => by
    obtain ⟨_, _, _, h2, h3, _⟩ := HBD.out g hg
    rw [hσ8, upd_ne _ _ h3]
    exact setPar_in hg (by rw [upd_ne _ _ h2, upd_ne _ _ h3, HO6.out g h2]; exact hgd))
  have HS8 := Lib.hid s9
  have HB8 := Lib.hid (HB8'.out.trans b9)
  clear s9 b9 hσ8 hx8 hp8 hq9 HB8' HX6 HO6 HP6 HX7
  generalize w9 = w8 at *
  have GX := Lib.hid HBX.out.symm
  have GP := Lib.hid HBP.out.symm
  have HKX := Lib.hid (show ∀ g ∈ d.ks, ∀ gd, σ g = some gd → gd.par = some x ∧ g ≠ p ∧ g ≠ x ∧ g ≠ b ∧ g ∉ db.ks from fun g hg gd hgd => by
    obtain ⟨h1, h2⟩ := SS.out.kidOf HH.out hg hgd
    have hxl := SS.out.kidOf HQ.out (by rw [HKS.out]; simp) HH.out
    have hbl := SS.out.kidOf HQ.out (by rw [HKS.out]; simp) HB.out
    refine ⟨h1, fun e' => ?_, fun e' => ?_, fun e' => ?_, fun hm => ?_⟩
    · rw [e', HQ.out] at hgd; injection hgd with hgd; subst hgd; omega
    · rw [e', HH.out] at hgd; injection hgd with hgd; subst hgd; omega
    · rw [e', HB.out] at hgd; injection hgd with hgd; subst hgd; omega
    · obtain ⟨gd', h3, h4, _⟩ := HBD.out g hm
      rw [hgd] at h3; injection h3 with h3; subst h3
      rw [h1] at h4; injection h4 with h4; exact HBX.out h4.symm)
  have M80 := Lib.hid (merge_two (σ' := upd σ8 b none) (n := x) (m := b) SS.out HB.out HH.out HQ.out HKS.out HQE.out HLN.out (.inr ⟨rfl, rfl⟩) (by rw [upd_ne _ _ GX.out, HX8.out, show db.lv = d.lv from by have h1 := SS.out.kidOf HQ.out (by rw [HKS.out]; simp) HB.out; have h2 := SS.out.kidOf HQ.out (by rw [HKS.out]; simp) HH.out; omega]) (upd_at _ _ _) (by rw [upd_ne _ _ GP.out]; exact HP8.out)
    (fun g hg gd hgd => by
      rcases hg.symm with hg | hg
      · obtain ⟨h1, h2, h3, h4, h5⟩ := HKX.out g hg gd hgd
        rw [upd_ne _ _ h4, HO8.out g h2 h3 h5, hgd, ← h1]
      · obtain ⟨_, _, _, _, _, h4⟩ := HBD.out g hg
        rw [upd_ne _ _ h4]; exact HG8.out g hg gd hgd)
    (fun j' h1 h3 h2 h5 _ => by rw [upd_ne _ _ h3]; exact HO8.out j' h1 h2 h5))
  have M8 := Lib.hid M80.out.1
  have OLD := Lib.hid (show ∀ j' e', σ8 j' = some e' → j' ≠ p → j' ≠ x → j' ≠ b → ∃ e0, σ j' = some e0 ∧ e'.es = e0.es ∧ e'.lv = e0.lv from fun j' e' he h1 h2 h3 => by
    by_cases hm : j' ∈ db.ks
    · obtain ⟨gd, h4, _⟩ := HBD.out j' hm
      rw [HG8.out j' hm gd h4] at he; injection he with he; subst he
      exact ⟨gd, h4, rfl, rfl⟩
    · rw [HO8.out j' h1 h2 hm] at he
      exact ⟨e', he, rfl, rfl⟩)
  have FX := Lib.hid (show (((db.es ++ sep :: d.es).length : Nat) : Int) ≤ H.m - 1 ∧ 1 ≤ (db.es ++ sep :: d.es).length from by
    have h1 := HL.out; have h2 := HBL.out; have h3 := HM3.out; have h4 := HNX.out; have h5 := HNB.out; have h6 := HQV.out
    simp only [List.length_append, List.length_cons]; omega)
  have HRD8 := Lib.hid (show ∃ rd, σ8 rt = some rd from by
    obtain ⟨rd, hrd, hrn⟩ := SS.out.root
    by_cases h1 : rt = p
    · exact ⟨_, by rw [h1]; exact HP8.out⟩
    by_cases h2 : rt = x
    · exact ⟨_, by rw [h2]; exact HX8.out⟩
    by_cases hm : rt ∈ db.ks
    · exact ⟨_, HG8.out rt hm rd hrd⟩
    · exact ⟨rd, by rw [HO8.out rt h1 h2 hm]; exact hrd⟩)
  have REC := Lib.hid (fun (n' : Nat) (hcase : p ≠ rt ∨ (eL ++ eR).length ≠ 0) => show Calls Try.prog 68 #[.pointer (some ⟨H.tb, 0, none⟩), .pointer (some ⟨p, 0, none⟩), .iface 3 (.int .i64 sep.k)] (w8.drewN n') (RebPost w B H o σ rt x) from by
    have T := M8.out
    have hp' : upd σ8 b none p = some ⟨q.par, eL ++ eR, kL ++ x :: kR, q.lv⟩ := by rw [upd_ne _ _ GP.out]; exact HP8.out
    have hA : Asc o (nk (upd σ8 b none) rt) := by rw [T.2.1]; exact HAS.out
    have hu : sep.kv ∈ nk (upd σ8 b none) p := by
      rw [T.1, nk_row SS.out HQ.out]
      exact mem_rowKvs (by rw [HQE.out]; simp) (SS.out.fits HQ.out)
    have hlen : (eL ++ eR).length + 1 = nq2 := by rw [← HNQ.out, HQE.out]; simp; omega
    have hfp := HFP.out
    have hNQ := HNQ.out
    have hQV := HQV.out
    have hM3 := HM3.out
    have C := HIH.out (w8.drewN n') B H o (upd σ8 b none) _ p rt ⟨q.par, eL ++ eR, kL ++ x :: kR, q.lv⟩ sep.k ((HS8.out.drewN n').drop b) HO.out HM3.out HR.out T.2.2 hp' (fun r' hr' => by
        obtain ⟨r0, hr0, hr0p⟩ := SS.out.root
        have hb := HLV.out r0 hr0
        have hpl := HPL.out
        simp only
        by_cases h1 : rt = p
        · rw [h1, hp'] at hr'; injection hr' with hr'; subst hr'; simp only; omega
        · have h2 : rt ≠ x := fun e' => by rw [e', HH.out] at hr0; injection hr0 with hr0; subst hr0; rw [HDP.out] at hr0p; cases hr0p
          have h3 : rt ≠ b := fun e' => by rw [e', upd_at] at hr'; cases hr'
          rw [upd_ne _ _ h3] at hr'
          obtain ⟨e0, h4, _, h5⟩ := OLD.out rt r' hr' h1 h2 h3
          rw [hr0] at h4; injection h4 with h4; subst h4; omega)
      (fun j' e' hj' hne => by
        by_cases h3 : j' = b
        · subst h3; rw [upd_at] at hj'; cases hj'
        rw [upd_ne _ _ h3] at hj'
        by_cases h2 : j' = x
        · subst h2; rw [HX8.out] at hj'; injection hj' with hj'; subst hj'
          have h1 := HL.out; have h2 := HBL.out; have h4 := HNX.out; have h5 := HNB.out; have h6 := HQV.out
          exact ⟨FX.out.1, fun _ => by simp only [List.length_append, List.length_cons]; omega, fun _ => FX.out.2⟩
        obtain ⟨e0, h4, h5, h6⟩ := OLD.out j' e' hj' hne h2 h3
        have := HF.out j' e0 h4 h2
        exact ⟨by rw [h5]; exact this.1, fun hh => by rw [h5]; exact this.2.1 hh, fun hh => by rw [h5]; exact this.2.2 (by rw [← h6]; exact hh)⟩)
      (by simp only; have := hfp.1; omega) (fun hh => by simp only; have := hfp.2.1 hh; omega) (fun hh _ => by simp only; exact hcase.elim (fun h1 => absurd hh h1) (fun h1 => by omega)) hA (sits_of T.2.2 hA hp' hu)
    refine C.mono ?_
    rintro e' w' ⟨rfl, σ2, α2, rt2, s2, S2, k2, f2, b2, ab2⟩
    exact ⟨rfl, σ2, α2, rt2, s2, S2, k2.trans T.2.1, f2, (Below.drewN' HB8.out n').trans b2, fun c' ac => by
          obtain ⟨c2, h1, h2, _⟩ := MU.out _ M80.out.2.1 c' ac
          rw [h2 hcase]; exact ab2 c2 h1⟩)
  clear HS HBD HO8 HG8 HKX HB
  have T := M8.out
  have hp8 := HP8.out
  have hx0 := fun n => ((HS8.out.drewN n).cells HX8.out).1
  have hh0 := fun n => (HS8.out.drewN n).hcells.1
  have hp1 := fun n => ((HS8.out.drewN n).cells HP8.out).2.1
  simp only [HR.out, ptr, Option.map_some] at hx0 hh0
  have hx0' := hx0 0
  have hh0' := hh0 0
  have hp1' := hp1 0
  simp only [World.drewN_zero] at hx0' hh0' hp1'
  by_cases hpr : p = rt
  · subst hpr
    have qs := btPtr_same
    by_cases he0 : (eL ++ eR).length = 0
    ·
      have heL : eL = [] ∧ eR = [] := List.append_eq_nil_iff.1 (List.eq_nil_of_length_eq_zero he0)
      have hkL : kL = [] := List.eq_nil_of_length_eq_zero (by rw [HLN.out, heL.1]; rfl)
      have hkR : kR = [] := by
        have := HQK.out
        rw [HKS.out, ← HNQ.out, HQE.out, hkL, heL.1, heL.2] at this
        simp at this
        exact this
      have hxg : x ≠ b := GX.out
      have hpg : p ≠ b := GP.out
      have SK0 := Lib.hid (shrink_two (σ := upd σ8 b none) (σ' := upd (upd (upd σ8 x (some ⟨none, (db.es ++ sep :: d.es), (db.ks ++ d.ks), d.lv⟩)) b none) p none) (p := p) (i := x) T.2.2 (by rw [upd_ne _ _ hpg]; exact hp8) (by simp only; rw [heL.1, heL.2]; rfl) (by simp only; rw [hkL, hkR]; rfl) (by rw [upd_ne _ _ hxg]; exact HX8.out) (upd_at _ _ _)
        (by rw [upd_ne _ _ HXP.out, upd_ne _ _ hxg, upd_at]) (fun j' h1 h2 => by
          rw [upd_ne _ _ h1]
          by_cases hj' : j' = b
          · subst hj'; rw [upd_at, upd_at]
          · rw [upd_ne _ _ hj', upd_ne _ _ h2, upd_ne _ _ hj']))
      have SK := SK0.out.1
      have SA := SK0.out.2
      have FIN := Lib.hid (fun n => show RebPost w B H o σ p x (.returned (.tuple #[])) (((w8.drewN n).setCell ⟨H.tb, 0, none⟩ (.pointer (some ⟨x, 0, none⟩))).setCell ⟨x, 0, none⟩ (.pointer none)) from by
        have S8 := HS8.out.drewN n
        have S9 := S8.head (H' := { H with root := some x }) ((Only.refl [H.tb] (w8.drewN n)).setCell (p := ⟨H.tb, 0, none⟩) (.inl (by simp)) (.pointer (some ⟨x, 0, none⟩))) rfl rfl (by have := S8.hd.set_ 0 (.pointer (some ⟨x, 0, none⟩)); simpa [ptr] using this)
        have S10 := ((S9.setPar HX8.out none).drop b).drop p
        simp only [ptr, Option.map_none] at S10
        exact ⟨rfl, _, _, x, S10, SK.1, SK.2.trans T.2.1, (fun j' e' hj' => by
          by_cases h1 : j' = p
          · subst h1; rw [upd_at] at hj'; cases hj'
          rw [upd_ne _ _ h1] at hj'
          by_cases h2 : j' = b
          · subst h2; rw [upd_at] at hj'; cases hj'
          rw [upd_ne _ _ h2] at hj'
          by_cases h3 : j' = x
          · subst h3; rw [upd_at] at hj'; injection hj' with hj'; subst hj'; exact ⟨FX.out.1, fun hh => absurd rfl hh, fun _ => FX.out.2⟩
          rw [upd_ne _ _ h3] at hj'
          obtain ⟨e0, h4, h5, h6⟩ := OLD.out j' e' hj' h1 h3 h2
          have := HF.out j' e0 h4 h3
          exact ⟨by rw [h5]; exact this.1, fun _ => by rw [h5]; exact this.2.1 h1, fun hh => by rw [h5]; exact this.2.2 (by rw [← h6]; exact hh)⟩), ((Below.drewN' HB8.out n).setCell (p := ⟨H.tb, 0, none⟩) HS8.out.hdB _).setCell (p := ⟨x, 0, none⟩) (HS8.out.nd x _ HX8.out).ge _, fun c' ac => by
              obtain ⟨c2, _, _, h3⟩ := MU.out _ M80.out.2.1 c' ac
              rw [h3 rfl heL.1 heL.2, ← M80.out.2.2]
              exact SA⟩)
      have hx9 := fun n => show ((w8.drewN n).setCell ⟨H.tb, 0, none⟩ (.pointer (some ⟨x, 0, none⟩))).cell? ⟨x, 0, none⟩ = some (.pointer (some ⟨p, 0, none⟩)) from by
        have S8 := HS8.out.drewN n
        have := ((S8.nd x _ HX8.out).blk.far (p := ⟨H.tb, 0, none⟩) (fun e => Blk.ne_ (S8.nd x _ HX8.out).blk S8.hd (by decide) e) (.pointer (some ⟨x, 0, none⟩))).cell 0
        simpa [ptr] using this
      have hh0f := HS8.out.hd.frozen 0
      simp only [he0] at hp1' hp1
      clear SK SA T hp8 hkL hkR heL he0
      go_wp2_with fail
      go_quiet (fail)
      have HX9 := hx9 nq
      have HXA := hx0 nq
      have HHA := hh0 nq
      have HHF : (w8.drewN nq).frozen? ⟨H.tb, 0, none⟩ = false := hh0f
      have HXF : ((w8.drewN nq).setCell ⟨H.tb, 0, none⟩ (.pointer (some ⟨x, 0, none⟩))).frozen? ⟨x, 0, none⟩ = false := ((HS8.out.drewN nq).nd x _ HX8.out).blk.far (p := ⟨H.tb, 0, none⟩) (fun e => Blk.ne_ (HS8.out.nd x _ HX8.out).blk HS8.out.hd (by decide) e) (.pointer (some ⟨x, 0, none⟩)) |>.frozen 0
      have FN := Lib.hid (FIN.out nq)
      clear hx9 hh0f hx0 hh0 hp1 hx0' hh0' hp1' FIN
      generalize w8.drewN nq = w9 at *
      go_wp2_with fail
      (try simp only [Exit.inBlock, Exit.then])
      refine bodyPost_ret (results_none rfl _ _ _) rfl ?_
      exact ⟨rfl, FN.out.2⟩
    · have hb0 : (((eL ++ eR).length : Int) == 0) = false := by simp only [beq_eq_false_iff_ne, ne_eq]; omega
      have CI := Lib.hid (fun n : Nat => REC.out n (Or.inr he0))
      simp only at hp1' hp1
      generalize (eL ++ eR).length = nn at *
      clear T hp8 hx0 hh0 hp1
      go_wp2_with fail
      go_quiet (fail)
      go_wp2_with fail
      refine (CI.out _).mono ?_
      rintro e9 w9 ⟨rfl, hp9⟩
      have F := Lib.hid hp9
      clear hp9 CI
      go_wp2_with fail
      go_end0
      exact ⟨rfl, F.out⟩
  · obtain ⟨rd, hrd⟩ := HRD8.out
    have qs := fun n => btPtr_other (w8.drewN n) hpr (i := p) (j := rt) ((HS8.out.drewN n).nd p _ HP8.out).blk ((HS8.out.drewN n).nd rt rd hrd).blk
    have qs' := qs 0
    simp only [World.drewN_zero] at qs'
    have CI := Lib.hid (fun n : Nat => REC.out n (Or.inl hpr))
    clear T hp8 hx0 hh0 hp1
    go_wp2_with fail
    go_quiet (fail)
    go_wp2_with fail
    refine (CI.out _).mono ?_
    rintro e9 w9 ⟨rfl, hp9⟩
    have F := Lib.hid hp9
    clear hp9 CI
    go_wp2_with fail
    go_end0
    exact ⟨rfl, F.out⟩
end Go.Proofs.Ytgakapigpiaoiaa.Bt

namespace Go.Proofs.Ytgakapigpiaoiaa.Bt
open Go.RowKit Go.Proofs.Ytgakapigpiaoiaa
section
variable {w : World} {B i x rt : Nat} {H : Hd} {o : Ord} {σ σ' : Store} {α : Nat → Arr} {d : ND} {en : En} {m : Int}
theorem St.setEn (s : St w B H o σ α) (h : σ i = some d) {g j : Nat} (hg1 : (α i).A1 = some ⟨g, 0, none⟩) (hen : EnAt w B en) :
    St (w.setCell ⟨g, j, none⟩ (.pointer (some ⟨en.b, 0, none⟩))) B H o (upd σ i (some { d with es := d.es.set j en })) α ∧ Below B w (w.setCell ⟨g, j, none⟩ (.pointer (some ⟨en.b, 0, none⟩))) := by
  have n1 : NdRaw w B i d.par (α i) d.es.length d.ks.length (enRow d.es) (ndRow d.ks) := s.nd i d h
  have own := n1.own1
  rw [hg1] at own
  have st := own.stored j (Value.pointer (some ⟨en.b, 0, none⟩))
  have hgx : g ≠ i := by
    obtain ⟨cur, hc, _⟩ := own_blk n1.own1 hg1
    exact Blk.ne_ hc n1.blk (by decide)
  have on : Only (ids i (α i)) w (w.setCell ⟨g, j, none⟩ (Value.pointer (some ⟨en.b, 0, none⟩))) := (Only.refl _ _).setCell (p := ⟨g, j, none⟩) (.inl (mem_ids.2 (.inr (.inl ⟨_, hg1, rfl⟩)))) _
  have own2 := own_only n1.own2 (only_cell w g j (Value.pointer (some ⟨en.b, 0, none⟩))) (fun y hy hm => by
    simp only [List.mem_singleton] at hm
    obtain ⟨cur, hc, _⟩ := own_blk n1.own2 hy
    obtain ⟨cur2, hc2, _⟩ := own_blk n1.own1 hg1
    exact Blk.ne_ hc hc2 (by decide) hm)
  have s2 := s.put h on (d' := { d with es := d.es.set j en }) (a' := α i)
    ⟨by simpa using n1.blk.far (p := ⟨g, j, none⟩) (fun e => hgx e.symm) (Value.pointer (some ⟨en.b, 0, none⟩)), by have := st.1; rw [← hg1] at this; simpa [enRow, enV] using this, own2, n1.ge⟩ (Fresh.refl _ _) (fun e' he' => by
      rcases List.mem_or_eq_of_mem_set he' with h1 | h1
      · exact .inl h1
      · subst h1; exact .inr ⟨(show Blk w _ _ _ from hen.1).only on (n1.not_ids hen.1 (by decide) (by decide) (by decide)), hen.2⟩)
  rw [updA_self] at s2
  exact ⟨s2, (Below.refl _ _).setCell (by obtain ⟨cur, _, hb, _⟩ := own_blk n1.own1 hg1; exact hb) _⟩
theorem borrow_fit {b : Nat} {d' b' : ND} (F : Fit0X σ m rt x) (hx : σ' x = some d') (hb : σ' b = some b') (fx : Fit0N m rt x d') (fb : Fit0N m rt b b')
    (old : ∀ j e, σ' j = some e → j ≠ x → j ≠ b → ∃ e0, σ j = some e0 ∧ e.es.length = e0.es.length ∧ e.lv = e0.lv) : Fit0 σ' m rt := by
  intro j e hj
  by_cases h1 : j = x
  · subst h1; rw [hx] at hj; injection hj with hj; subst hj; exact fx
  by_cases h2 : j = b
  · subst h2; rw [hb] at hj; injection hj with hj; subst hj; exact fb
  obtain ⟨e0, h3, h4, h5⟩ := old j e hj h1 h2
  have := F j e0 h3 h1
  exact ⟨by rw [h4]; exact this.1, fun hh => by rw [h4]; exact this.2.1 hh, fun hh => by rw [h4]; exact this.2.2 (by rw [← h5]; exact hh)⟩
end
theorem borrowR_end {σ σ' : Store} {rt p x b : Nat} {q d db : ND} {kL kR : List Nat} {eL eR eb : List En} {sep f : En} {m : Int} (S : Shp σ rt) (hx : σ x = some d) (hb : σ b = some db) (hq : σ p = some q) (hqk : q.ks = kL ++ x :: b :: kR) (hqe : q.es = eL ++ sep :: eR) (hln : kL.length = eL.length)
    (F : Fit0X σ m rt x) (hl : (d.es.length : Int) = (m + 1) / 2 - 2) (hm : 3 ≤ m ∧ m ≤ 64) (hbl : (m + 1) / 2 - 1 < (db.es.length : Int)) (hbe : db.es = f :: eb) {ka kb : List Nat} (hk : d.ks ++ db.ks = ka ++ kb) (hc : Cut d.lv ka kb (d.es ++ [sep]) eb)
    (h_x : σ' x = some ⟨some p, d.es ++ [sep], ka, d.lv⟩) (h_b : σ' b = some ⟨some p, eb, kb, d.lv⟩) (h_p : σ' p = some ⟨q.par, eL ++ f :: eR, q.ks, q.lv⟩)
    (hgA : ∀ g ∈ ka, ∀ gd, σ g = some gd → σ' g = some { gd with par := some x }) (hgB : ∀ g ∈ kb, ∀ gd, σ g = some gd → σ' g = some { gd with par := some b })
    (off : ∀ j, j ≠ p → j ≠ x → j ≠ b → j ∉ ka → j ∉ kb → σ' j = σ j) : nk σ' rt = nk σ rt ∧ Shp σ' rt ∧ Fit0 σ' m rt ∧ ∀ c, LeastL σ m kL → APath σ rt x c → abs σ' rt = rebT m c (abs σ x) := by
  have T := recut_seg (σ' := σ') S hx hb hq hqk hqe hln (ea := d.es ++ [sep]) (eb := eb) (f := f) (by rw [hbe]; simp) hk hc h_x h_b h_p hgA hgB off
  have TA := recut_abs (σ' := σ') S hx hb hq hqk hqe hln (ea := d.es ++ [sep]) (eb := eb) (f := f) (by rw [hbe]; simp) hk hc h_x h_b h_p hgA hgB off
  refine ⟨T.2.1, T.2.2, borrow_fit F h_x h_b ⟨by simp only [List.length_append, List.length_singleton]; omega, fun _ => by simp only [List.length_append, List.length_singleton]; omega, fun _ => by simp⟩ ⟨?_, fun _ => ?_, fun _ => ?_⟩ ?_, fun c hle ac => borR_up S hx hb hq hqk hqe hln hbe hk hc TA (by unfold mnOf; omega) (by unfold mnOf; omega) hle ac⟩
  · have hbx : b ≠ x := fun e => by
      have := S.nd p q hq
      rw [hqk, List.nodup_append] at this
      have := (List.nodup_cons.1 this.2.1).1
      simp [e] at this
    have := (F b db hb hbx).1
    rw [hbe] at this
    simp only [List.length_cons] at this
    simp only; omega
  · rw [hbe] at hbl; simp only [List.length_cons] at hbl; simp only; omega
  · rw [hbe] at hbl; simp only [List.length_cons] at hbl; simp only; omega
  · intro j e hj h1 h2
    by_cases h3 : j = p
    · subst h3
      rw [h_p] at hj; injection hj with hj; subst hj
      exact ⟨q, hq, by simp only; rw [hqe]; simp, rfl⟩
    by_cases h4 : j ∈ ka
    · have : j ∈ d.ks ++ db.ks := by rw [hk]; exact List.mem_append.2 (.inl h4)
      obtain ⟨gd, hgd⟩ : ∃ gd, σ j = some gd := by
        rcases List.mem_append.1 this with h5 | h5
        · obtain ⟨gd, h6, _⟩ := S.kid x d j hx h5; exact ⟨gd, h6⟩
        · obtain ⟨gd, h6, _⟩ := S.kid b db j hb h5; exact ⟨gd, h6⟩
      rw [hgA j h4 gd hgd] at hj; injection hj with hj; subst hj
      exact ⟨gd, hgd, rfl, rfl⟩
    by_cases h4' : j ∈ kb
    · have : j ∈ d.ks ++ db.ks := by rw [hk]; exact List.mem_append.2 (.inr h4')
      obtain ⟨gd, hgd⟩ : ∃ gd, σ j = some gd := by
        rcases List.mem_append.1 this with h5 | h5
        · obtain ⟨gd, h6, _⟩ := S.kid x d j hx h5; exact ⟨gd, h6⟩
        · obtain ⟨gd, h6, _⟩ := S.kid b db j hb h5; exact ⟨gd, h6⟩
      rw [hgB j h4' gd hgd] at hj; injection hj with hj; subst hj
      exact ⟨gd, hgd, rfl, rfl⟩
    rw [off j h3 h1 h2 h4 h4'] at hj
    exact ⟨e, hj, rfl, rfl⟩
theorem borrowL_end {σ σ' : Store} {rt p x b : Nat} {q d db : ND} {kL kR : List Nat} {eL eR ea : List En} {sep f : En} {m : Int} (S : Shp σ rt) (hx : σ x = some d) (hb : σ b = some db) (hq : σ p = some q) (hqk : q.ks = kL ++ b :: x :: kR) (hqe : q.es = eL ++ sep :: eR) (hln : kL.length = eL.length)
    (F : Fit0X σ m rt x) (hl : (d.es.length : Int) = (m + 1) / 2 - 2) (hm : 3 ≤ m ∧ m ≤ 64) (hbl : (m + 1) / 2 - 1 < (db.es.length : Int)) (hbe : db.es = ea ++ [f]) {ka kb : List Nat} (hk : db.ks ++ d.ks = ka ++ kb) (hc : Cut db.lv ka kb ea (sep :: d.es))
    (h_x : σ' x = some ⟨some p, sep :: d.es, kb, db.lv⟩) (h_b : σ' b = some ⟨some p, ea, ka, db.lv⟩) (h_p : σ' p = some ⟨q.par, eL ++ f :: eR, q.ks, q.lv⟩)
    (hgA : ∀ g ∈ ka, ∀ gd, σ g = some gd → σ' g = some { gd with par := some b }) (hgB : ∀ g ∈ kb, ∀ gd, σ g = some gd → σ' g = some { gd with par := some x })
    (off : ∀ j, j ≠ p → j ≠ x → j ≠ b → j ∉ ka → j ∉ kb → σ' j = σ j) : nk σ' rt = nk σ rt ∧ Shp σ' rt ∧ Fit0 σ' m rt ∧ ∀ c, APath σ rt x c → abs σ' rt = rebT m c (abs σ x) := by
  have T := recut_seg (σ' := σ') S hb hx hq hqk hqe hln (ea := ea) (eb := sep :: d.es) (f := f) (by rw [hbe]; simp) hk hc h_b h_x h_p hgA hgB (fun j h1 h2 h3 h4 h5 => off j h1 h3 h2 h4 h5)
  have TA := recut_abs (σ' := σ') S hb hx hq hqk hqe hln (ea := ea) (eb := sep :: d.es) (f := f) (by rw [hbe]; simp) hk hc h_b h_x h_p hgA hgB (fun j h1 h2 h3 h4 h5 => off j h1 h3 h2 h4 h5)
  have hbn : db.es.length = ea.length + 1 := by rw [hbe]; simp
  refine ⟨T.2.1, T.2.2, borrow_fit F h_x h_b ⟨by simp only [List.length_cons]; omega, fun _ => by simp only [List.length_cons]; omega, fun _ => by simp⟩ ⟨?_, fun _ => by simp only; omega, fun _ => by simp only; omega⟩ ?_, fun c ac => borL_up S hx hb hq hqk hqe hln hbe hk hc TA (by unfold mnOf; omega) (by unfold mnOf; omega) ac⟩
  · have hbx : b ≠ x := fun e => by
      have := S.nd p q hq
      rw [hqk, List.nodup_append] at this
      have := (List.nodup_cons.1 this.2.1).1
      simp [e] at this
    have := (F b db hb hbx).1
    simp only; omega
  · intro j e hj h1 h2
    by_cases h3 : j = p
    · subst h3
      rw [h_p] at hj; injection hj with hj; subst hj
      exact ⟨q, hq, by simp only; rw [hqe]; simp, rfl⟩
    by_cases h4 : j ∈ ka
    · have : j ∈ db.ks ++ d.ks := by rw [hk]; exact List.mem_append.2 (.inl h4)
      obtain ⟨gd, hgd⟩ : ∃ gd, σ j = some gd := by
        rcases List.mem_append.1 this with h5 | h5
        · obtain ⟨gd, h6, _⟩ := S.kid b db j hb h5; exact ⟨gd, h6⟩
        · obtain ⟨gd, h6, _⟩ := S.kid x d j hx h5; exact ⟨gd, h6⟩
      rw [hgA j h4 gd hgd] at hj; injection hj with hj; subst hj
      exact ⟨gd, hgd, rfl, rfl⟩
    by_cases h4' : j ∈ kb
    · have : j ∈ db.ks ++ d.ks := by rw [hk]; exact List.mem_append.2 (.inr h4')
      obtain ⟨gd, hgd⟩ : ∃ gd, σ j = some gd := by
        rcases List.mem_append.1 this with h5 | h5
        · obtain ⟨gd, h6, _⟩ := S.kid b db j hb h5; exact ⟨gd, h6⟩
        · obtain ⟨gd, h6, _⟩ := S.kid x d j hx h5; exact ⟨gd, h6⟩
      rw [hgB j h4' gd hgd] at hj; injection hj with hj; subst hj
      exact ⟨gd, hgd, rfl, rfl⟩
    rw [off j h3 h1 h2 h4 h4'] at hj
    exact ⟨e, hj, rfl, rfl⟩
end Go.Proofs.Ytgakapigpiaoiaa.Bt
