import Derived.Test.YtjjolokeceldmaaGreatBases
import Derived.Test.YtjjolokeceldmaaGreatPures
import Derived.Test.YtjjolokeceldmaaGreatAvlTops
import Derived.Deep.LoopGhost
namespace Go.Proofs.YtjjolokeceldmaaGreat
open Go.RowKit Lib
section
variable {o : Ord} {ob B tb itb p : Nat} {w w' : World} {t : BT}
theorem avlItFirst_walk (h : AvlItAt o ob B w tb itb t p) :
 Calls Tryz.prog 155 #[.pointer (some ⟨itb, 0, none⟩)] w fun e w' => e = .returned (.bool (decide (0 < t.count))) ∧ AvlItAt o ob B w' tb itb t 1 ∧ Only [itb] w w' := by
 have H := hid h
 clear h
 go_enter Tryz.func155, Tryz.ntmps155
 go_wp2_with fail
 refine (avlItBegin_walk H.out).mono ?_
 rintro e w1 ⟨rfl, h1, on1⟩
 have C := hid (avlItNext_walk h1)
 have O1 := hid on1
 clear h1 on1
 go_wp2_with fail
 refine C.out.mono ?_
 rintro e w2 ⟨rfl, h2, on2⟩
 have F := hid (show AvlItAt o ob B w2 tb itb t 1 ∧ Only [itb] w w2 from ⟨by rw [show min (0 + 1) (t.count + 1) = 1 by omega] at h2; exact h2, O1.out.trans on2⟩)
 clear h2 on2
 go_wp2_with fail
 go_ret
 exact ⟨rfl, F.out⟩
theorem avlItLast_walk (h : AvlItAt o ob B w tb itb t p) :
 Calls Tryz.prog 157 #[.pointer (some ⟨itb, 0, none⟩)] w fun e w' => e = .returned (.bool (decide (0 < t.count))) ∧ AvlItAt o ob B w' tb itb t t.count ∧ Only [itb] w w' := by
 have H := hid h
 clear h
 go_enter Tryz.func157, Tryz.ntmps157
 go_wp2_with fail
 refine (avlItEnd_walk H.out).mono ?_
 rintro e w1 ⟨rfl, h1, on1⟩
 have c := avlItPrev_walk h1
 rw [show decide (1 < t.count + 1) = decide (0 < t.count) by by_cases hh : 0 < t.count <;> simp [hh]] at c
 have C := hid c
 have O1 := hid on1
 clear h1 on1 c
 go_wp2_with fail
 refine C.out.mono ?_
 rintro e w2 ⟨rfl, h2, on2⟩
 have F := hid (show AvlItAt o ob B w2 tb itb t t.count ∧ Only [itb] w w2 from ⟨by rw [show t.count + 1 - 1 = t.count by omega] at h2; exact h2, O1.out.trans on2⟩)
 clear h2 on2
 go_wp2_with fail
 go_ret
 exact ⟨rfl, F.out⟩
theorem AvlItAt.drewN (h : AvlItAt o ob B w tb itb t p) (n : Nat) : AvlItAt o ob B (w.drewN n) tb itb t p := h.only (S := []) (Only.drewN (Only.refl _ _) n) (by simp)
set_option maxRecDepth 100000 in
theorem avlItNextTo_walk (h : AvlItAt o ob B w tb itb t p) (m : Do) (mb : Nat) (hm1 : 1 ≤ m.key) (hm2 : m.key ≤ 1000) (hb : MoveAt w mb m) (hmb : mb ≠ itb) :
 Calls Tryz.prog 159 #[.pointer (some ⟨itb, 0, none⟩), tov mb] w fun e w' => e = .returned (.bool (decide (up m t.kvs (min p t.count) < t.count))) ∧ AvlItAt o ob B w' tb itb t (up m t.kvs (min p t.count) + 1) ∧ Only [itb] w w' := by
 have H := hid h
 have HB := hid hb
 have M := hid hmb
 have K := hid (BT.kvs_length t)
 have hpl := h.le
 have PL := hid hpl
 clear h hb hmb hpl
 go_enter Tryz.func159, Tryz.ntmps159
 go_wp2_with fail
 go_loopg [] (t.count + 2) (fun g wr => ∃ p' : Nat, AvlItAt o ob B wr tb itb t p' ∧ up m t.kvs (min p' t.count) = up m t.kvs (min p t.count) ∧ Only [itb] w wr ∧ t.count + 1 - p' < g)
 case atStart => exact ⟨p, H.out, rfl, Only.refl _ _, by omega⟩
 case round =>
  obtain ⟨p', hit, hup, hon, hg⟩ := hrel
  have hle := hit.le
  have c := avlItNext_walk hit
  have HU := hid hup
  have HO := hid hon
  have HG := hid hg
  by_cases hlt : p' < t.count
  ·rw [decide_eq_true hlt] at c
   have HC := hid c
   have LT := hid hlt
   have LE := hid hle
   clear c hit hup hon hg hlt hle
   go_wp2_with fail
   refine HC.out.mono ?_
   rintro e w1 ⟨rfl, h1, on1⟩
   rw [show min (p' + 1) (t.count + 1) = p' + 1 by have := LT.out; omega] at h1
   obtain ⟨x, hx⟩ : ∃ x, t.kvs[p']? = some x := ⟨_, List.getElem?_eq_getElem (by rw [K.out]; exact LT.out)⟩
   have ck := hid (avlItKey_walk h1 (show t.kvs[p']? = some (x.1, x.2) from hx))
   have cv := hid (avlItValue_walk h1 (show t.kvs[p']? = some (x.1, x.2) from hx))
   have ct := to_walk m mb x.1 x.2 w1 hm1 hm2 (HB.out.only (HO.out.trans on1) (by simp; exact M.out))
   have X := hid hx
   have O1 := hid (HO.out.trans on1)
   have H1 := hid h1
   cases hgd : good m x.1 with
   | true =>
     rw [hgd] at ct
     have CT := hid ct
     have GD := hid hgd
     clear ct h1 on1 hx hgd
     go_wp2_with fail
     refine ck.out.mono ?_
     rintro e w2 ⟨rfl, rfl⟩
     go_wp2_with fail
     refine cv.out.mono ?_
     rintro e w2 ⟨rfl, rfl⟩
     go_wp2_with fail
     refine CT.out.mono ?_
     rintro e w2 ⟨rfl, n, rfl⟩
     go_wp2_with fail
     go_ret
     have e1 : up m t.kvs (min p t.count) = p' := by rw [← HU.out, show min p' t.count = p' by have := LT.out; omega]; exact up_here X.out GD.out
     exact ⟨by rw [e1, decide_eq_true LT.out]; rfl, by rw [e1]; exact (AvlItAt.drewN H1.out n), O1.out.drewN n⟩
   | false =>
     rw [hgd] at ct
     have CT := hid ct
     have GD := hid hgd
     clear ct h1 on1 hx hgd
     go_wp2_with fail
     refine ck.out.mono ?_
     rintro e w2 ⟨rfl, rfl⟩
     go_wp2_with fail
     refine cv.out.mono ?_
     rintro e w2 ⟨rfl, rfl⟩
     go_wp2_with fail
     refine CT.out.mono ?_
     rintro e w2 ⟨rfl, n, rfl⟩
     go_wp2_with fail
     go_roundg (t.count + 1 - p')
     case measure => have := HG.out; have := LT.out; omega
     case rel => exact ⟨p' + 1, AvlItAt.drewN H1.out n, by rw [← HU.out, show min p' t.count = p' by have := LT.out; omega, up_on X.out GD.out, show min (p' + 1) t.count = p' + 1 by have := LT.out; omega], O1.out.drewN n, by have := LT.out; omega⟩
  ·rw [decide_eq_false hlt] at c
   have HC := hid c
   have LT := hid hlt
   have LE := hid hle
   clear c hit hup hon hg hlt hle
   go_wp2_with fail
   refine HC.out.mono ?_
   rintro e w1 ⟨rfl, h1, on1⟩
   have O1 := hid (HO.out.trans on1)
   have H1 := hid h1
   clear h1 on1
   go_wp2_with fail
   go_ret
   have e1 : up m t.kvs (min p t.count) = t.count := by rw [← HU.out, show min p' t.count = t.count by have := LT.out; omega]; exact up_end _ _ _ (by rw [K.out]; exact Nat.le_refl _)
   exact ⟨by rw [e1]; simp, by rw [e1]; have := H1.out; rw [show min (p' + 1) (t.count + 1) = t.count + 1 by have := LT.out; have := LE.out; omega] at this; exact this, O1.out⟩
set_option maxRecDepth 100000 in
theorem avlItPrevTo_walk (h : AvlItAt o ob B w tb itb t p) (m : Do) (mb : Nat) (hm1 : 1 ≤ m.key) (hm2 : m.key ≤ 1000) (hb : MoveAt w mb m) (hmb : mb ≠ itb) :
 Calls Tryz.prog 161 #[.pointer (some ⟨itb, 0, none⟩), tov mb] w fun e w' => e = .returned (.bool (decide (0 < dn m t.kvs (p - 1)))) ∧ AvlItAt o ob B w' tb itb t (dn m t.kvs (p - 1)) ∧ Only [itb] w w' := by
 have H := hid h
 have HB := hid hb
 have M := hid hmb
 have K := hid (BT.kvs_length t)
 have hpl := h.le
 have PL := hid hpl
 clear h hb hmb hpl
 go_enter Tryz.func161, Tryz.ntmps161
 go_wp2_with fail
 go_loopg [] (p + 1) (fun g wr => ∃ p' : Nat, AvlItAt o ob B wr tb itb t p' ∧ dn m t.kvs (p' - 1) = dn m t.kvs (p - 1) ∧ Only [itb] w wr ∧ p' < g)
 case atStart => exact ⟨p, H.out, rfl, Only.refl _ _, by omega⟩
 case round =>
  obtain ⟨p', hit, hup, hon, hg⟩ := hrel
  have hle := hit.le
  have c := avlItPrev_walk hit
  have HU := hid hup
  have HO := hid hon
  have HG := hid hg
  by_cases hlt : 1 < p'
  ·rw [decide_eq_true hlt] at c
   have HC := hid c
   have LT := hid hlt
   have LE := hid hle
   clear c hit hup hon hg hlt hle
   go_wp2_with fail
   refine HC.out.mono ?_
   rintro e w1 ⟨rfl, h1, on1⟩
   obtain ⟨p1, hp1⟩ : ∃ p1, p' = p1 + 2 := ⟨p' - 2, by have := LT.out; omega⟩
   rw [show p' - 1 = p1 + 1 by omega] at h1
   obtain ⟨x, hx⟩ : ∃ x, t.kvs[p1]? = some x := ⟨_, List.getElem?_eq_getElem (by rw [K.out]; have := LE.out; omega)⟩
   have P1 := hid hp1
   clear hp1
   have ck := hid (avlItKey_walk h1 (show t.kvs[p1]? = some (x.1, x.2) from hx))
   have cv := hid (avlItValue_walk h1 (show t.kvs[p1]? = some (x.1, x.2) from hx))
   have ct := to_walk m mb x.1 x.2 w1 hm1 hm2 (HB.out.only (HO.out.trans on1) (by simp; exact M.out))
   have X := hid hx
   have O1 := hid (HO.out.trans on1)
   have H1 := hid h1
   cases hgd : good m x.1 with
   | true =>
     rw [hgd] at ct
     have CT := hid ct
     have GD := hid hgd
     clear ct h1 on1 hx hgd
     go_wp2_with fail
     refine ck.out.mono ?_
     rintro e w2 ⟨rfl, rfl⟩
     go_wp2_with fail
     refine cv.out.mono ?_
     rintro e w2 ⟨rfl, rfl⟩
     go_wp2_with fail
     refine CT.out.mono ?_
     rintro e w2 ⟨rfl, n, rfl⟩
     go_wp2_with fail
     go_ret
     have e1 : dn m t.kvs (p - 1) = p1 + 1 := by rw [← HU.out, show p' - 1 = p1 + 1 by have := P1.out; omega]; exact dn_here X.out GD.out
     exact ⟨by rw [e1]; simp, by rw [e1]; exact (AvlItAt.drewN H1.out n), O1.out.drewN n⟩
   | false =>
     rw [hgd] at ct
     have CT := hid ct
     have GD := hid hgd
     clear ct h1 on1 hx hgd
     go_wp2_with fail
     refine ck.out.mono ?_
     rintro e w2 ⟨rfl, rfl⟩
     go_wp2_with fail
     refine cv.out.mono ?_
     rintro e w2 ⟨rfl, rfl⟩
     go_wp2_with fail
     refine CT.out.mono ?_
     rintro e w2 ⟨rfl, n, rfl⟩
     go_wp2_with fail
     go_roundg p'
     case measure => have := HG.out; omega
     case rel => exact ⟨p1 + 1, AvlItAt.drewN H1.out n, by rw [← HU.out, show p' - 1 = p1 + 1 by have := P1.out; omega, dn_on X.out GD.out, Nat.add_sub_cancel], O1.out.drewN n, by have := P1.out; omega⟩
  ·rw [decide_eq_false hlt] at c
   have HC := hid c
   have LT := hid hlt
   clear c hit hup hon hg hlt hle
   go_wp2_with fail
   refine HC.out.mono ?_
   rintro e w1 ⟨rfl, h1, on1⟩
   have O1 := hid (HO.out.trans on1)
   have H1 := hid h1
   clear h1 on1
   go_wp2_with fail
   go_ret
   have e1 : dn m t.kvs (p - 1) = 0 := by rw [← HU.out, show p' - 1 = 0 by have := LT.out; omega]; rfl
   exact ⟨by rw [e1]; rfl, by rw [e1]; have := H1.out; rw [show p' - 1 = 0 by have := LT.out; omega] at this; exact this, O1.out⟩
end
end Go.Proofs.YtjjolokeceldmaaGreat
