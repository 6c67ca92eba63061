/-
  Several texts as one (BtSib, BtKids, BtReb1): each says its own in its remarks.
-/
import Derived.Test.YtgakapigpiaoiaaBtPut
import Derived.Test.YtgakapigpiaoiaaBtRebT
namespace Go.Proofs.Ytgakapigpiaoiaa.Bt
open Go.RowKit Go.Proofs.Ytgakapigpiaoiaa
section
variable {w : World} {B i x p rt : Nat} {H : Hd} {o : Ord} {σ : Store} {α : Nat → Arr} {d q : ND}
theorem eraseIdx_map {β γ : Type} (f : β → γ) (l : List β) (j : Nat) : (l.map f).eraseIdx j = (l.eraseIdx j).map f := by
  induction l generalizing j with
  | nil => rfl
  | cons a l ih => cases j with
    | zero => rfl
    | succ j => simp [ih]
theorem delEntry_walk (s : St w B H o σ α) (h : σ i = some d) (j : Nat) (hj : j < d.es.length) (hn : d.es.length ≤ 100000) (t : Value) :
    Calls Try.prog 67 #[t, .pointer (some ⟨i, 0, none⟩), .int .i64 j] w fun e w' => e = .returned (.tuple #[]) ∧ St w' B H o (upd σ i (some { d with es := d.es.eraseIdx j })) α ∧ Below B w w' := by
  refine (delEntry_raw (s.nd i d h) (enRow_one _) j hj hn t).mono ?_
  rintro e w' ⟨rfl, nr, on⟩
  refine ⟨rfl, ?_, on.below (fun b hb => ((s.nd i d h).ids_ b hb).1) s.hB⟩
  have el : (d.es.eraseIdx j).length = d.es.length - 1 := List.length_eraseIdx_of_lt hj
  have := s.put h on (d' := { d with es := d.es.eraseIdx j }) (a' := α i) (by show NdRaw _ _ _ _ _ (d.es.eraseIdx j).length _ (enRow (d.es.eraseIdx j)) _; rw [el, enRow, ← eraseIdx_map]; exact nr) (Fresh.refl _ _) (fun e he => .inl (List.mem_of_mem_eraseIdx he))
  rwa [updA_self] at this
theorem delChild_walk (s : St w B H o σ α) (h : σ i = some d) (j : Nat) (hj : j < d.ks.length) (hn : d.ks.length ≤ 100000) (t : Value) :
    Calls Try.prog 74 #[t, .pointer (some ⟨i, 0, none⟩), .int .i64 j] w fun e w' => e = .returned (.tuple #[]) ∧ St w' B H o (upd σ i (some { d with ks := d.ks.eraseIdx j })) α ∧ Below B w w' := by
  refine (delChild_raw (s.nd i d h) (ndRow_one _) j hj hn t).mono ?_
  rintro e w' ⟨rfl, nr, on⟩
  refine ⟨rfl, ?_, on.below (fun b hb => ((s.nd i d h).ids_ b hb).1) s.hB⟩
  have el : (d.ks.eraseIdx j).length = d.ks.length - 1 := List.length_eraseIdx_of_lt hj
  have := s.put h on (d' := { d with ks := d.ks.eraseIdx j }) (a' := α i) (by show NdRaw _ _ _ _ _ _ (d.ks.eraseIdx j).length _ (ndRow (d.ks.eraseIdx j)); rw [el, ndRow, ← eraseIdx_map]; exact nr) (Fresh.refl _ _) (fun e he => .inl he)
  rwa [updA_self] at this
set_option maxRecDepth 100000 in
theorem leftSib_top (s : St w B H o σ α) (h : σ x = some d) (hp : d.par = none) (k t : Value) :
    Calls Try.prog 73 #[t, .pointer (some ⟨x, 0, none⟩), k] w fun e w' => e = .returned (.tuple #[.pointer none, .int .i64 (-1)]) ∧ w = w' := by
  have h0 := (s.cells h).1
  rw [hp] at h0
  simp only [ptr, Option.map_none] at h0
  clear s h hp
  go_enter Try.func73, Try.ntmps73
  go_wp2_with fail
  go_ret2
  exact ⟨rfl, rfl⟩
set_option maxRecDepth 100000 in
theorem rightSib_top (s : St w B H o σ α) (h : σ x = some d) (hp : d.par = none) (k t : Value) :
    Calls Try.prog 75 #[t, .pointer (some ⟨x, 0, none⟩), k] w fun e w' => e = .returned (.tuple #[.pointer none, .int .i64 (-1)]) ∧ w = w' := by
  have h0 := (s.cells h).1
  rw [hp] at h0
  simp only [ptr, Option.map_none] at h0
  clear s h hp
  go_enter Try.func75, Try.ntmps75
  go_wp2_with fail
  go_ret2
  exact ⟨rfl, rfl⟩
set_option maxHeartbeats 1000000 in
set_option maxRecDepth 100000 in
theorem leftSib_none (s : St w B H o σ α) (ho : o.fine) (h : σ x = some d) (hp : d.par = some p) (hq : σ p = some q) (ha : AscE o q.es) (hn : q.es.length ≤ 100000) (k : Int) (hr : rank o (o.rk k) q.es = 0) :
    Calls Try.prog 73 #[.pointer (some ⟨H.tb, 0, none⟩), .pointer (some ⟨x, 0, none⟩), .iface 3 (.int .i64 k)] w fun e w' => e = .returned (.tuple #[.pointer none, .int .i64 (-1)]) ∧ ∃ n, w' = w.drewN n := by
  have h0 := (s.cells h).1
  rw [hp] at h0
  simp only [ptr, Option.map_some] at h0
  have cs := search_walk s ho hq ha hn k
  rw [hr] at cs
  have CS := Lib.hid cs
  clear s h hp hq ha hn hr cs
  go_enter Try.func73, Try.ntmps73
  go_wp2_with fail
  refine CS.out.mono ?_
  rintro e w1 ⟨rfl, m, rfl⟩
  go_wp2_with fail
  go_ret2
  exact ⟨rfl, m, rfl⟩
set_option maxHeartbeats 1000000 in
set_option maxRecDepth 100000 in
theorem leftSib_some (s : St w B H o σ α) (ho : o.fine) (h : σ x = some d) (hp : d.par = some p) (hq : σ p = some q) (ha : AscE o q.es) (hn : q.es.length ≤ 100000) (k : Int) (j : Nat) (hr : rank o (o.rk k) q.es = j + 1) {c : Nat} (hc : q.ks[j]? = some c) :
    Calls Try.prog 73 #[.pointer (some ⟨H.tb, 0, none⟩), .pointer (some ⟨x, 0, none⟩), .iface 3 (.int .i64 k)] w fun e w' => e = .returned (.tuple #[.pointer (some ⟨c, 0, none⟩), .int .i64 (j : Int)]) ∧ ∃ n, w' = w.drewN n := by
  have h0 := (s.cells h).1
  rw [hp] at h0
  simp only [ptr, Option.map_some] at h0
  have cs := search_walk s ho hq ha hn k
  have hrl := rank_le o (o.rk k) q.es
  rw [hr] at cs
  obtain ⟨g, hg, hgc, _⟩ := s.kid hq hc
  have h2 := (s.cells hq).2.2.1
  rw [hg] at h2
  have hj := (List.getElem?_eq_some_iff.1 hc).1
  have CS := Lib.hid cs
  have i1 : (0 : Int) ≤ (j : Int) := by omega
  have i2 : (j : Int) < (q.ks.length : Int) := by omega
  have i3 : (j : Int) ≤ 100000 := by omega
  clear s h hp hq ha hn hr cs hc hg hrl hj
  generalize q.ks.length = n at *
  generalize (α p).c2 = c2 at *
  go_enter Try.func73, Try.ntmps73
  go_wp2_with fail
  refine CS.out.mono ?_
  rintro e w1 ⟨rfl, m, rfl⟩
  have f0 : (w.drewN m).cell? ⟨x, 0, none⟩ = some (.pointer (some ⟨p, 0, none⟩)) := h0
  have f2 : (w.drewN m).cell? ⟨p, 2, none⟩ = some (.slice (some ⟨g, 0, none⟩) n c2) := h2
  have fg : (w.drewN m).cell? ⟨g, j, none⟩ = some (.pointer (some ⟨c, 0, none⟩)) := hgc
  have F := Lib.hid (show ∃ n, w.drewN m = w.drewN n from ⟨m, rfl⟩)
  clear h0 h2 hgc CS
  generalize w.drewN m = w2 at *
  go_wp2_with fail
  go_ret2
  exact ⟨rfl, F.out⟩
set_option maxHeartbeats 1000000 in
set_option maxRecDepth 100000 in
theorem rightSib_none (s : St w B H o σ α) (ho : o.fine) (h : σ x = some d) (hp : d.par = some p) (hq : σ p = some q) (ha : AscE o q.es) (hn : q.es.length ≤ 100000) (k : Int) (j : Nat) (hr : rank o (o.rk k) q.es = j) (hl : q.ks.length = j + 1) :
    Calls Try.prog 75 #[.pointer (some ⟨H.tb, 0, none⟩), .pointer (some ⟨x, 0, none⟩), .iface 3 (.int .i64 k)] w fun e w' => e = .returned (.tuple #[.pointer none, .int .i64 (-1)]) ∧ ∃ n, w' = w.drewN n := by
  have h0 := (s.cells h).1
  rw [hp] at h0
  simp only [ptr, Option.map_some] at h0
  have cs := search_walk s ho hq ha hn k
  have hrl := rank_le o (o.rk k) q.es
  rw [hr] at cs
  have h2 := (s.cells hq).2.2.1
  rw [hl] at h2
  have CS := Lib.hid cs
  have i1 : (0 : Int) ≤ (j : Int) := by omega
  have i3 : (j : Int) ≤ 100000 := by omega
  clear s h hp hq ha hn hr cs hrl hl
  generalize (α p).c2 = c2 at *
  generalize (α p).A2 = A2 at *
  go_enter Try.func75, Try.ntmps75
  go_wp2_with fail
  refine CS.out.mono ?_
  rintro e w1 ⟨rfl, m, rfl⟩
  have f0 : (w.drewN m).cell? ⟨x, 0, none⟩ = some (.pointer (some ⟨p, 0, none⟩)) := h0
  have f2 : (w.drewN m).cell? ⟨p, 2, none⟩ = some (.slice A2 ((j : Nat) + 1) c2) := h2
  have F := Lib.hid (show ∃ n, w.drewN m = w.drewN n from ⟨m, rfl⟩)
  clear h0 h2 CS
  generalize w.drewN m = w2 at *
  go_wp2_with fail
  go_ret2
  exact ⟨rfl, F.out⟩
set_option maxHeartbeats 1000000 in
set_option maxRecDepth 100000 in
theorem rightSib_some (s : St w B H o σ α) (ho : o.fine) (h : σ x = some d) (hp : d.par = some p) (hq : σ p = some q) (ha : AscE o q.es) (hn : q.es.length ≤ 100000) (k : Int) (j : Nat) (hr : rank o (o.rk k) q.es = j) {c : Nat} (hc : q.ks[j + 1]? = some c) :
    Calls Try.prog 75 #[.pointer (some ⟨H.tb, 0, none⟩), .pointer (some ⟨x, 0, none⟩), .iface 3 (.int .i64 k)] w fun e w' => e = .returned (.tuple #[.pointer (some ⟨c, 0, none⟩), .int .i64 ((j : Int) + 1)]) ∧ ∃ n, w' = w.drewN n := by
  have h0 := (s.cells h).1
  rw [hp] at h0
  simp only [ptr, Option.map_some] at h0
  have cs := search_walk s ho hq ha hn k
  have hrl := rank_le o (o.rk k) q.es
  rw [hr] at cs
  obtain ⟨g, hg, hgc, _⟩ := s.kid hq hc
  have h2 := (s.cells hq).2.2.1
  rw [hg] at h2
  have hj := (List.getElem?_eq_some_iff.1 hc).1
  have CS := Lib.hid cs
  have i1 : (0 : Int) ≤ (j : Int) + 1 := by omega
  have i2 : (j : Int) + 1 < (q.ks.length : Int) := by omega
  have i3 : (j : Int) ≤ 100000 := by omega
  have i4 : ((j : Int) + 1).toNat = j + 1 := by omega
  have i5 : (0 : Int) ≤ (j : Int) := by omega
  clear s h hp hq ha hn hr cs hc hg hrl hj
  generalize q.ks.length = n at *
  generalize (α p).c2 = c2 at *
  go_enter Try.func75, Try.ntmps75
  go_wp2_with fail
  refine CS.out.mono ?_
  rintro e w1 ⟨rfl, m, rfl⟩
  have f0 : (w.drewN m).cell? ⟨x, 0, none⟩ = some (.pointer (some ⟨p, 0, none⟩)) := h0
  have f2 : (w.drewN m).cell? ⟨p, 2, none⟩ = some (.slice (some ⟨g, 0, none⟩) n c2) := h2
  have fg : (w.drewN m).cell? ⟨g, j + 1, none⟩ = some (.pointer (some ⟨c, 0, none⟩)) := hgc
  have F := Lib.hid (show ∃ n, w.drewN m = w.drewN n from ⟨m, rfl⟩)
  clear h0 h2 hgc CS
  generalize w.drewN m = w2 at *
  go_wp2_with fail
  go_ret2
  exact ⟨rfl, F.out⟩
end
end Go.Proofs.Ytgakapigpiaoiaa.Bt

namespace Go.Proofs.Ytgakapigpiaoiaa.Bt
open Go.RowKit Go.Proofs.Ytgakapigpiaoiaa
section
variable {w w1 : World} {B i x rt : Nat} {H : Hd} {o : Ord} {σ : Store} {α : Nat → Arr} {d di : ND}
theorem own_srcAll {e : TypeId} {n c : Nat} {A : Option Addr} {xs : List Value} (own : w.ownsRow B e 1 (.slice A n c) n xs) : Src w 1 A n c xs := by
  cases A with
  | none =>
    refine ⟨own.1, fun _ => ?_, fun a ha => by cases ha⟩
    rcases own.2 with ⟨h1, h0⟩ | ⟨g, cap, cur, hv, _⟩
    · injection h1 with _ h2 h3
      exact ⟨h2, h3⟩
    · cases hv
  | some y =>
    obtain ⟨g, hg⟩ : ∃ g, y = ⟨g, 0, none⟩ := by
      obtain ⟨_, _, _, h, _⟩ := own_blk own rfl
      exact ⟨_, h⟩
    subst hg
    exact own_src own rfl 0 n c (fun q u hu => by rw [Nat.zero_add]; exact hu) (by have := own.1; omega)
theorem fresh_of {A A3 : Option Addr} {n c n3 c3 sz : Nat} (ob : (Value.slice A3 n3 c3).ownBlock = (Value.slice A n c).ownBlock ∨ (Value.slice A3 n3 c3).ownBlock = some sz) : ∀ x, A3 = some x → (∃ y, A = some y ∧ y.block = x.block) ∨ sz ≤ x.block := by
  intro x hx
  subst hx
  rcases ob with e | e
  · exact .inl (ownBlock_slice e.symm)
  · simp only [Value.ownBlock, Option.some.injEq] at e
    exact .inr (by omega)
set_option maxHeartbeats 2000000 in
set_option maxRecDepth 100000 in
theorem appKids_walk (s : St w B H o σ α) (h : σ x = some d) (hi : σ i = some di) (hix : i ≠ x) (hk : ∀ k ∈ di.ks, ∃ c, σ k = some c) (hnd : di.ks.Nodup) (hno : i ∉ di.ks) (hn1 : d.ks.length ≤ 1000) (hn2 : di.ks.length ≤ 1000) (t : Value) :
    Calls Try.prog 76 #[t, .pointer (some ⟨i, 0, none⟩), .pointer (some ⟨x, 0, none⟩)] w fun e w' => e = .returned (.tuple #[]) ∧ (∃ α', St w' B H o (Bt.setPar (upd σ x (some { d with ks := d.ks ++ di.ks })) di.ks (some x)) α') ∧ Below B w w' := by
  obtain ⟨A1, c1, A2, c2, ha⟩ := St.arr α x
  obtain ⟨D1, e1, D2, e2, hd⟩ := St.arr α i
  have hx2 := (s.cells' h ha).2.2.1
  have hxf := (s.cells' h ha).2.2.2 2
  have hi2 := (s.cells' hi hd).2.2.1
  have HS := Lib.hid s
  have HH := Lib.hid h
  have HI := Lib.hid hi
  have HA := Lib.hid ha
  have HD := Lib.hid hd
  have HIX := Lib.hid hix
  have HK := Lib.hid hk
  have HND := Lib.hid hnd
  have HNO := Lib.hid hno
  have hB := Lib.hid s.hB
  have OW := Lib.hid (s.own2' h ha)
  have OI := Lib.hid (s.own2' hi hd)
  clear s h hi ha hd hix hk hnd hno
  generalize hl1 : d.ks.length = n1 at *
  generalize hl2 : di.ks.length = n2 at *
  have HL1 := Lib.hid hl1
  have HL2 := Lib.hid hl2
  clear hl1 hl2
  go_enter Try.func76, Try.ntmps76
  go_wp2_with fail
  have OW1 := Lib.hid (show w.drew.ownsRow B 45 1 (.slice A2 n1 c2) n1 (ndRow d.ks) from OW.out)
  have OI1 := Lib.hid (show w.drew.ownsRow B 45 1 (.slice D2 n2 e2) n2 (ndRow di.ks) from OI.out)
  have lbx := Lib.hid (HS.out.nd x d HH.out).blk
  have HS1 := Lib.hid (HS.out.drew)
  have HB1 := Lib.hid (show Below B w w.drew from ⟨rfl, rfl, rfl, Nat.le_refl _, fun _ _ => rfl⟩)
  go_region_law
    (first
      | (refine step_app (t := 59) (e := 45) (z := .pointer none) (size := 1) (bytes := 8) Try.underlying59 nd_info rfl (by omega) rfl (.tmp 10) (.tmp 14) rfl B (.slice A2 n1 c2) n1 (ndRow d.ks) rfl OW1.out D2 n2 e2 (ndRow di.ks) rfl (own_srcAll OI1.out) (ndRow_one _) (by omega) (by omega) hB.out ?_
         intro v1 w2 own2 gr2 ob2
         obtain ⟨A3, c3, rfl, _, _⟩ := own_slice own2
         have LB := Lib.hid (lbx.out.drew.same (gr2.block x lbx.out.lt (fun e => own_neB OW1.out lbx.out.drew (by decide) e.symm)))
         have hxc := LB.out.cell 2
         have hxf := LB.out.frozen 2
         rw [HA.out] at hxc
         simp only at hxc
         have G := Lib.hid (And.intro own2 (And.intro gr2 ob2))
         clear own2 gr2 ob2))
  all_goals
    obtain ⟨own2, gr2, ob2⟩ := G.out
    rw [← ndRow_append] at own2
    obtain ⟨s2, b2⟩ := HS1.out.setKs HH.out own2 gr2 (fun k hk => by rw [HA.out]; exact ownBlock_slice hk) (fun y hy => by rw [HA.out]; exact fresh_of ob2 y hy) (by rw [List.length_append, HL1.out, HL2.out])
    rw [HA.out] at s2
    simp only at s2
    have hi' : upd σ x (some { d with ks := d.ks ++ di.ks }) i = some di := by rw [upd_ne _ _ HIX.out]; exact HI.out
    have ha' : updA α x ⟨A1, c1, A3, c3⟩ i = ⟨D1, e1, D2, e2⟩ := by rw [updA_ne _ _ HIX.out]; exact HD.out
    have CP := Lib.hid (setParent_walk' s2 hi' ha' HL2.out (fun k hk => by
      obtain ⟨c, hc⟩ := HK.out k hk
      by_cases hkx : k = x
      · exact ⟨_, by rw [hkx]; exact upd_at _ _ _⟩
      · exact ⟨c, by rw [upd_ne _ _ hkx]; exact hc⟩) HND.out HNO.out (by omega) x)
    have hi2 := (s2.cells' hi' ha').2.2.1
    rw [HL2.out] at hi2
    have HB2 := Lib.hid (HB1.out.trans b2)
    clear own2 gr2 ob2 s2 b2 G OW1 OI1 HS1 hi' ha' hx2 hxf hxc LB lbx
    go_wp2_with fail
    refine CP.out.mono ?_
    rintro e w3 ⟨rfl, s3, b3⟩
    have F := Lib.hid (show (∃ α', St w3 B H o (Bt.setPar (upd σ x (some { d with ks := d.ks ++ di.ks })) di.ks (some x)) α') ∧ Below B w w3 from ⟨⟨_, s3⟩, HB2.out.trans b3⟩)
    clear s3 b3 CP HB2
    go_wp2_with fail
    go_end0
    exact ⟨rfl, F.out⟩
set_option maxHeartbeats 2000000 in
set_option maxRecDepth 100000 in
theorem preKids_walk (s : St w B H o σ α) (h : σ x = some d) (hi : σ i = some di) (hix : i ≠ x) (hk : ∀ k ∈ di.ks, ∃ c, σ k = some c) (hnd : di.ks.Nodup) (hno : i ∉ di.ks) (hn1 : d.ks.length ≤ 1000) (hn2 : di.ks.length ≤ 1000) (t : Value) :
    Calls Try.prog 77 #[t, .pointer (some ⟨i, 0, none⟩), .pointer (some ⟨x, 0, none⟩)] w fun e w' => e = .returned (.tuple #[]) ∧ (∃ α', St w' B H o (Bt.setPar (upd σ x (some { d with ks := di.ks ++ d.ks })) di.ks (some x)) α') ∧ Below B w w' := by
  obtain ⟨A1, c1, A2, c2, ha⟩ := St.arr α x
  obtain ⟨D1, e1, D2, e2, hd⟩ := St.arr α i
  have hi2 := (s.cells' hi hd).2.2.1
  have HS := Lib.hid s
  have HH := Lib.hid h
  have HI := Lib.hid hi
  have HA := Lib.hid ha
  have HD := Lib.hid hd
  have HIX := Lib.hid hix
  have HK := Lib.hid hk
  have HND := Lib.hid hnd
  have HNO := Lib.hid hno
  have hB := Lib.hid s.hB
  have OI := Lib.hid (s.own2' hi hd)
  clear s h hi ha hd hix hk hnd hno
  generalize hl1 : d.ks.length = n1 at *
  generalize hl2 : di.ks.length = n2 at *
  have HL1 := Lib.hid hl1
  have HL2 := Lib.hid hl2
  clear hl1 hl2
  go_enter Try.func77, Try.ntmps77
  go_wp2_with (at_builtin; refine Hid.out ?_)
  delta Hid
  refine wpList_appT Try.underlying59 nd_info rfl (by omega) rfl _ _ rfl B (.slice none 0 0) 0 [] rfl (own_nil w B _) D2 n2 e2 (ndRow di.ks) rfl (own_srcAll OI.out) (ndRow_one _) (by omega) (by omega) hB.out ?_
  intro v1 w1 own1 gr1 ob1
  simp only [Nat.zero_add, List.nil_append] at own1
  obtain ⟨A3, c3, rfl, _, _⟩ := own_slice own1
  have gr1' : w.grownBy w1 none := gr1
  have s1 := HS.out.same (grown_only gr1' (fun k hk => by cases hk))
  have hx2 := (s1.cells' HH.out HA.out).2.2.1
  rw [HL1.out] at hx2
  have fr1 : ∀ y, A3 = some y → w.heap.size ≤ y.block := by
    intro y hy
    subst hy
    rcases ob1 with e | e
    · simp [Value.ownBlock] at e
    · simp only [Value.ownBlock, Option.some.injEq] at e; omega
  have GZ := Lib.hid gr1'
  have HS1 := Lib.hid s1
  have OW1 := Lib.hid own1
  have FR1 := Lib.hid fr1
  have OX1 := Lib.hid (s1.own2' HH.out HA.out)
  clear own1 gr1 ob1 s1 gr1' fr1 hi2 OI
  go_wp2_with (at_builtin; refine Hid.out ?_)
  delta Hid
  refine wpList_appT Try.underlying59 nd_info rfl (by omega) rfl _ _ rfl B (.slice A3 n2 c3) n2 (ndRow di.ks) rfl OW1.out A2 n1 c2 (ndRow d.ks) rfl (by have := own_srcAll OX1.out; rwa [HL1.out] at this) (ndRow_one _) (by omega) (by omega) HS1.out.hB ?_
  intro v2 w2 own2 gr2 ob2
  rw [← ndRow_append] at own2
  obtain ⟨A4, c4, rfl, _, _⟩ := own_slice own2
  have gr3 : w.grownBy w2 none := ⟨gr2.os.trans GZ.out.os, gr2.tape.trans GZ.out.tape, gr2.output.trans GZ.out.output, Nat.le_trans GZ.out.size gr2.size, fun k hk _ => (gr2.block k (Nat.lt_of_lt_of_le hk GZ.out.size) (fun e => by
    obtain ⟨y, hy, hyb⟩ := ownBlock_slice e.symm
    have := FR1.out y hy
    omega)).trans (GZ.out.block k hk (by simp))⟩
  obtain ⟨s2, b2⟩ := HS.out.setKs HH.out own2 gr3 (fun k hk => by cases hk) (fun y hy => .inr (by
    rcases fresh_of ob2 y hy with ⟨z, hz, hzb⟩ | h1
    · have := FR1.out z hz; omega
    · have := GZ.out.size; omega)) (by rw [List.length_append, HL1.out, HL2.out])
  rw [HA.out] at s2
  simp only at s2
  have lb := (HS.out.nd x d HH.out).blk.same (gr3.block x (HS.out.nd x d HH.out).lt (by simp))
  have hxc := lb.cell 2
  have hxf := lb.frozen 2
  rw [HA.out] at hxc
  simp only at hxc
  have hi' : upd σ x (some { d with ks := di.ks ++ d.ks }) i = some di := by rw [upd_ne _ _ HIX.out]; exact HI.out
  have ha' : updA α x ⟨A1, c1, A4, c4⟩ i = ⟨D1, e1, D2, e2⟩ := by rw [updA_ne _ _ HIX.out]; exact HD.out
  have CP := Lib.hid (setParent_walk' s2 hi' ha' HL2.out (fun k hk => by
    obtain ⟨c, hc⟩ := HK.out k hk
    by_cases hkx : k = x
    · exact ⟨_, by rw [hkx]; exact upd_at _ _ _⟩
    · exact ⟨c, by rw [upd_ne _ _ hkx]; exact hc⟩) HND.out HNO.out (by omega) x)
  have hi2 := (s2.cells' hi' ha').2.2.1
  rw [HL2.out] at hi2
  have HB2 := Lib.hid b2
  clear own2 gr2 ob2 gr3 s2 b2 lb OW1 OX1 HS1 hi' ha' hx2 GZ FR1
  go_wp2_with fail
  refine CP.out.mono ?_
  rintro e w3 ⟨rfl, s3, b3⟩
  have F := Lib.hid (show (∃ α', St w3 B H o (Bt.setPar (upd σ x (some { d with ks := di.ks ++ d.ks })) di.ks (some x)) α') ∧ Below B w w3 from ⟨⟨_, s3⟩, HB2.out.trans b3⟩)
  clear s3 b3 CP HB2
  go_wp2_with fail
  go_end0
  exact ⟨rfl, F.out⟩
end
end Go.Proofs.Ytgakapigpiaoiaa.Bt

namespace Go.Proofs.Ytgakapigpiaoiaa.Bt
open Go.RowKit Go.Proofs.Ytgakapigpiaoiaa
def Fit0N (m : Int) (rt j : Nat) (d : ND) : Prop := (d.es.length : Int) ≤ m - 1 ∧ (j ≠ rt → (m + 1) / 2 - 1 ≤ (d.es.length : Int)) ∧ (0 < d.lv → 1 ≤ d.es.length)
def Fit0 (σ : Store) (m : Int) (rt : Nat) : Prop := ∀ j e, σ j = some e → Fit0N m rt j e
def Fit0X (σ : Store) (m : Int) (rt x : Nat) : Prop := ∀ j e, σ j = some e → j ≠ x → Fit0N m rt j e
theorem Fit0X.fit {σ : Store} {m : Int} {rt x : Nat} {d : ND} (f : Fit0X σ m rt x) (h : σ x = some d) (hx : Fit0N m rt x d) : Fit0 σ m rt := by
  intro j e hj
  by_cases hjx : j = x
  · subst hjx; rw [h] at hj; injection hj with hj; subst hj; exact hx
  · exact f j e hj hjx
def RebPost (w : World) (B : Nat) (H : Hd) (o : Ord) (σ : Store) (rt x : Nat) (e : Ending) (w' : World) : Prop := e = .returned (.tuple #[]) ∧ ∃ σ' α' rt', St w' B { H with root := some rt' } o σ' α' ∧ Shp σ' rt' ∧ nk σ' rt' = nk σ rt ∧ Fit0 σ' H.m rt' ∧ Below B w w' ∧ ∀ c, APath σ rt x c → abs σ' rt' = rebT H.m c (abs σ x)
def RebOk (n : Nat) : Prop := ∀ (w : World) (B : Nat) (H : Hd) (o : Ord) (σ : Store) (α : Nat → Arr) (x rt : Nat) (d : ND) (k : Int), St w B H o σ α → o.fine → (3 ≤ H.m ∧ H.m ≤ 64) → H.root = some rt → Shp σ rt → σ x = some d → (∀ r, σ rt = some r → r.lv ≤ d.lv + n) → Fit0X σ H.m rt x → (d.es.length : Int) ≤ H.m - 1 → (x ≠ rt → (H.m + 1) / 2 - 2 ≤ (d.es.length : Int)) → (x = rt → 0 < d.lv → 1 ≤ d.es.length) → Asc o (nk σ rt) → Sits σ x o (o.rk k) →
  Calls Try.prog 68 #[.pointer (some ⟨H.tb, 0, none⟩), .pointer (some ⟨x, 0, none⟩), .iface 3 (.int .i64 k)] w (RebPost w B H o σ rt x)
theorem sib_st {f : FuncId} {args : Array Value} {v : Value} {w : World} {B : Nat} {H : Hd} {o : Ord} {σ : Store} {α : Nat → Arr} (C : Calls Try.prog f args w fun e w' => e = .returned v ∧ ∃ n, w' = w.drewN n) (s : St w B H o σ α) : Calls Try.prog f args w fun e w' => e = .returned v ∧ St w' B H o σ α ∧ Below B w w' := by
  refine C.mono ?_
  rintro e w' ⟨he, n, rfl⟩
  exact ⟨he, s.drewN n, Below.drewN' (Below.refl _ _) n⟩
theorem btPtr_nil (w : World) (a : Addr) : (binOp .eql 45 (.pointer none) (.pointer (some a))).run Try.prog w = .ok (.bool false) w := by kernel_rfl
section
variable {w : World} {B x rt : Nat} {H : Hd} {o : Ord} {σ : Store} {α : Nat → Arr} {d : ND}
set_option maxHeartbeats 4000000 in
set_option maxRecDepth 100000 in
theorem reb_nil (s : St w B H o σ α) (hm : 3 ≤ H.m ∧ H.m ≤ 64) (k : Value) :
    Calls Try.prog 68 #[.pointer (some ⟨H.tb, 0, none⟩), .pointer none, k] w fun e w' => e = .returned (.tuple #[]) ∧ ∃ n, w' = w.drewN n := by
  have C := Lib.hid (fun n => minEntries_walk (s.drewN n) hm)
  clear s
  go_enter Try.func68, Try.ntmps68
  go_wp2_with fail
  go_quiet ((go_at_call 72; exact quiet_left (C.out _)))
  go_wp2_with fail
  (try simp only [Exit.inBlock, Exit.then])
  refine bodyPost_ret (results_none rfl _ _ _) rfl ?_
  exact ⟨rfl, _, rfl⟩
set_option maxHeartbeats 4000000 in
set_option maxRecDepth 100000 in
theorem reb_enough (s : St w B H o σ α) (hm : 3 ≤ H.m ∧ H.m ≤ 64) (h : σ x = some d) (hl : (H.m + 1) / 2 - 1 ≤ (d.es.length : Int)) (k : Value) :
    Calls Try.prog 68 #[.pointer (some ⟨H.tb, 0, none⟩), .pointer (some ⟨x, 0, none⟩), k] w fun e w' => e = .returned (.tuple #[]) ∧ ∃ n, w' = w.drewN n := by
  have C := Lib.hid (fun n => minEntries_walk (s.drewN n) hm)
  obtain ⟨_, h1, _, _⟩ := s.cells h
  clear s h
  generalize (H.m + 1) / 2 - 1 = q at *
  generalize d.es.length = n at *
  have hd : decide (q ≤ (n : Int)) = true := decide_eq_true hl
  go_enter Try.func68, Try.ntmps68
  go_wp2_with fail
  go_quiet ((go_at_call 72; exact quiet_left (C.out _)))
  go_wp2_with fail
  (try simp only [Exit.inBlock, Exit.then])
  refine bodyPost_ret (results_none rfl _ _ _) rfl ?_
  exact ⟨rfl, _, rfl⟩
set_option maxHeartbeats 8000000 in
set_option maxRecDepth 100000 in
theorem reb_top (s : St w B H o σ α) (hm : 3 ≤ H.m ∧ H.m ≤ 64) (h : σ x = some d) (hp : d.par = none) (hr : H.root = some x) (hl : (d.es.length : Int) < (H.m + 1) / 2 - 1) (k : Value) :
    Calls Try.prog 68 #[.pointer (some ⟨H.tb, 0, none⟩), .pointer (some ⟨x, 0, none⟩), k] w fun e w' => e = .returned (.tuple #[]) ∧ ∃ n, w' = w.drewN n := by
  have C := Lib.hid (fun n => minEntries_walk (s.drewN n) hm)
  have CL := Lib.hid (fun n => leftSib_top (s.drewN n) h hp k (.pointer (some ⟨H.tb, 0, none⟩)))
  have CR := Lib.hid (fun n => rightSib_top (s.drewN n) h hp k (.pointer (some ⟨H.tb, 0, none⟩)))
  have CN := Lib.hid (fun n => reb_nil (s.drewN n) hm k)
  obtain ⟨h0, h1, _, _⟩ := s.cells h
  obtain ⟨g0, _, _, _⟩ := s.hcells
  rw [hp] at h0
  rw [hr] at g0
  simp only [ptr, Option.map_none, Option.map_some] at h0 g0
  clear s h hp hr
  generalize (H.m + 1) / 2 - 1 = q at *
  generalize d.es.length = n at *
  have hd : decide (q ≤ (n : Int)) = false := decide_eq_false (by omega)
  have qs := btPtr_nil
  go_enter Try.func68, Try.ntmps68
  go_wp2_with fail
  go_quiet ((go_at_call 72; exact quiet_left (C.out _)))
  go_wp2_with fail
  refine (CL.out _).mono ?_
  rintro e w1 ⟨rfl, rfl⟩
  go_wp2_with fail
  go_quiet ((go_at_call 72; exact quiet_left (C.out _)))
  go_wp2_with fail
  refine (CR.out _).mono ?_
  rintro e w1 ⟨rfl, rfl⟩
  go_wp2_with fail
  go_quiet ((go_at_call 72; exact quiet_left (C.out _)))
  go_wp2_with fail
  go_quiet (fail)
  go_wp2_with fail
  refine (CN.out _).mono ?_
  rintro e w1 ⟨rfl, m, rfl⟩
  go_wp2_with fail
  go_end0
  exact ⟨rfl, _, rfl⟩
end
end Go.Proofs.Ytgakapigpiaoiaa.Bt
