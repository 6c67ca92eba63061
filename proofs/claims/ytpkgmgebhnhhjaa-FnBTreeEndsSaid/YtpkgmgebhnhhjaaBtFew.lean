/-
  The B-tree: its ends' keys and values; the thin package's bNode, BTreeLeft, BTreeRight, BTreeNode, BTreeEnds. (Printed by gen_btfew.py.)
-/
import Derived.Test.YtpkgmgebhnhhjaaBtIter
import Derived.Test.YtpkgmgebhnhhjaaBtKept
import Derived.Test.YtpkgmgebhnhhjaaKeptBase
namespace Go.Proofs.Ytpkgmgebhnhhjaa.Bt
open Go.RowKit Go.Proofs.Ytpkgmgebhnhhjaa

section
variable {m : Int} {o : Ord} {B tb x rt : Nat} {w w' : World} {H : Hd} {σ : Store} {α : Nat → Arr} {l : KV} {d : ND}

set_option maxRecDepth 100000 in
theorem btLeft_n (h : BtAt m o B w H σ α l) (hr : H.root = some rt) (S : Shp σ rt) (hz : H.size ≠ 0) : Calls Try.prog 56 #[.pointer (some ⟨H.tb, 0, none⟩)] w fun e w' => ∃ j, e = .returned (.pointer (some ⟨j, 0, none⟩)) ∧ LFar σ rt j ∧ ∃ n, w' = w.drewN n := by
  obtain ⟨r, hrt, _⟩ := S.root
  have C := Lib.hid (left_walk h.st S hz hrt)
  have g0 := h.st.hcells.1
  rw [hr] at g0
  simp only [ptr, Option.map_some] at g0
  clear h hrt hr S hz
  go_enter Try.func56, Try.ntmps56
  go_wp2_with fail
  refine C.out.mono ?_
  rintro e w1 ⟨j, rfl, hj, rfl⟩
  have HJ := Lib.hid hj
  clear hj
  go_wp2_with fail
  go_ret
  exact ⟨j, rfl, HJ.out, 0, rfl⟩
set_option maxRecDepth 100000 in
theorem btLeftKey_none (h : BtAt m o B w H σ α []) : Calls Try.prog 58 #[.pointer (some ⟨H.tb, 0, none⟩)] w fun e w' => e = .returned .nilIface ∧ w = w' := by
  have C := Lib.hid (btLeft_none h)
  clear h
  go_enter Try.func58, Try.ntmps58
  go_wp2_with fail
  refine C.out.mono ?_
  rintro e w1 ⟨rfl, rfl⟩
  go_wp2_with fail
  go_ret
  exact ⟨rfl, rfl⟩
set_option maxHeartbeats 1000000 in
set_option maxRecDepth 100000 in
theorem btLeftKey_some (h : BtAt m o B w H σ α l) {p : Int × Int} (hp : l[0]? = some p) : Calls Try.prog 58 #[.pointer (some ⟨H.tb, 0, none⟩)] w fun e w' => e = .returned (.iface 3 (.int .i64 p.1)) ∧ ∃ n, w' = w.drewN n := by
  obtain ⟨rt, r, hr, S, hk, hfit, _, hz⟩ := h.top (fun e => by subst e; simp at hp)
  have C := Lib.hid (btLeft_n h hr S hz)
  have HH := Lib.hid h
  have SS := Lib.hid S
  have HK := Lib.hid hk
  have HF := Lib.hid hfit
  have HP := Lib.hid hp
  clear h hr S hk hfit hz hp
  go_enter Try.func58, Try.ntmps58
  go_wp2_with fail
  refine C.out.mono ?_
  rintro e w1 ⟨j, rfl, hj, n, rfl⟩
  clear C
  have S := SS.out
  have hfit := HF.out
  have hm6 := HH.out.m3
  have s1 := HH.out.st.drewN n
  obtain ⟨dl, hl⟩ : ∃ dl, σ j = some dl := by obtain ⟨r, hr, _⟩ := S.root; obtain ⟨dl, _, hl, _⟩ := hj.ctxt S _ _ (Ctxt.root S); exact ⟨dl, hl⟩
  obtain ⟨f, hla⟩ : ∃ f, dl.es[0]? = some f := ⟨_, List.getElem?_eq_getElem (hfit j dl hl).2.2⟩
  obtain ⟨X', sp⟩ := first_spot S hj hl hla
  have hfp : f.kv = p := by
    have h1 := sp.now S
    rw [HK.out] at h1
    have h2 := HP.out
    rw [h1] at h2
    simpa using h2
  obtain ⟨g, hg, hgc, _, hk0, hk1⟩ := s1.ent hl hla
  have hl1 := (s1.cells hl).2.1
  rw [hg] at hl1
  subst hfp
  have hlen := (hfit j dl hl).2.2
  have hlen6 : dl.es.length ≤ 64 := by have h1 := (hfit j dl hl).1; have h2 := hm6; omega
  have ib0 : (0 : Int) < (dl.es.length : Int) := by omega
  have ib1 : 0 < dl.es.length := by omega
  have ib2 : ¬ dl.es.length = 0 := by omega
  have ib3 : (1 : Int) ≤ (dl.es.length : Int) := by omega
  have ib4 : (0 : Int) ≤ (dl.es.length : Int) - 1 := by omega
  have ib5 : (dl.es.length : Int) - 1 < (dl.es.length : Int) := by omega
  have ib6 : ((dl.es.length : Int) - 1).toNat = dl.es.length - 1 := by omega
  have ib7 : IntKind.i64.wrap ((dl.es.length : Int) - 1) = (dl.es.length : Int) - 1 := IntWalk.i64_in _ (by omega)
  have HW := Lib.hid (show ∃ k, w.drewN n = w.drewN k from ⟨n, rfl⟩)
  clear S hfit hm6 s1 hl hla hg sp hj hlen HP
  generalize dl.es.length = nl at *
  generalize w.drewN n = w1 at *
  go_wp2_with fail
  go_ret
  exact ⟨rfl, HW.out⟩
set_option maxRecDepth 100000 in
theorem btLeftValue_none (h : BtAt m o B w H σ α []) : Calls Try.prog 59 #[.pointer (some ⟨H.tb, 0, none⟩)] w fun e w' => e = .returned .nilIface ∧ w = w' := by
  have C := Lib.hid (btLeft_none h)
  clear h
  go_enter Try.func59, Try.ntmps59
  go_wp2_with fail
  refine C.out.mono ?_
  rintro e w1 ⟨rfl, rfl⟩
  go_wp2_with fail
  go_ret
  exact ⟨rfl, rfl⟩
set_option maxHeartbeats 1000000 in
set_option maxRecDepth 100000 in
theorem btLeftValue_some (h : BtAt m o B w H σ α l) {p : Int × Int} (hp : l[0]? = some p) : Calls Try.prog 59 #[.pointer (some ⟨H.tb, 0, none⟩)] w fun e w' => e = .returned (.iface 3 (.int .i64 p.2)) ∧ ∃ n, w' = w.drewN n := by
  obtain ⟨rt, r, hr, S, hk, hfit, _, hz⟩ := h.top (fun e => by subst e; simp at hp)
  have C := Lib.hid (btLeft_n h hr S hz)
  have HH := Lib.hid h
  have SS := Lib.hid S
  have HK := Lib.hid hk
  have HF := Lib.hid hfit
  have HP := Lib.hid hp
  clear h hr S hk hfit hz hp
  go_enter Try.func59, Try.ntmps59
  go_wp2_with fail
  refine C.out.mono ?_
  rintro e w1 ⟨j, rfl, hj, n, rfl⟩
  clear C
  have S := SS.out
  have hfit := HF.out
  have hm6 := HH.out.m3
  have s1 := HH.out.st.drewN n
  obtain ⟨dl, hl⟩ : ∃ dl, σ j = some dl := by obtain ⟨r, hr, _⟩ := S.root; obtain ⟨dl, _, hl, _⟩ := hj.ctxt S _ _ (Ctxt.root S); exact ⟨dl, hl⟩
  obtain ⟨f, hla⟩ : ∃ f, dl.es[0]? = some f := ⟨_, List.getElem?_eq_getElem (hfit j dl hl).2.2⟩
  obtain ⟨X', sp⟩ := first_spot S hj hl hla
  have hfp : f.kv = p := by
    have h1 := sp.now S
    rw [HK.out] at h1
    have h2 := HP.out
    rw [h1] at h2
    simpa using h2
  obtain ⟨g, hg, hgc, _, hk0, hk1⟩ := s1.ent hl hla
  have hl1 := (s1.cells hl).2.1
  rw [hg] at hl1
  subst hfp
  have hlen := (hfit j dl hl).2.2
  have hlen6 : dl.es.length ≤ 64 := by have h1 := (hfit j dl hl).1; have h2 := hm6; omega
  have ib0 : (0 : Int) < (dl.es.length : Int) := by omega
  have ib1 : 0 < dl.es.length := by omega
  have ib2 : ¬ dl.es.length = 0 := by omega
  have ib3 : (1 : Int) ≤ (dl.es.length : Int) := by omega
  have ib4 : (0 : Int) ≤ (dl.es.length : Int) - 1 := by omega
  have ib5 : (dl.es.length : Int) - 1 < (dl.es.length : Int) := by omega
  have ib6 : ((dl.es.length : Int) - 1).toNat = dl.es.length - 1 := by omega
  have ib7 : IntKind.i64.wrap ((dl.es.length : Int) - 1) = (dl.es.length : Int) - 1 := IntWalk.i64_in _ (by omega)
  have HW := Lib.hid (show ∃ k, w.drewN n = w.drewN k from ⟨n, rfl⟩)
  clear S hfit hm6 s1 hl hla hg sp hj hlen HP
  generalize dl.es.length = nl at *
  generalize w.drewN n = w1 at *
  go_wp2_with fail
  go_ret
  exact ⟨rfl, HW.out⟩

set_option maxRecDepth 100000 in
theorem btRight_n (h : BtAt m o B w H σ α l) (hr : H.root = some rt) (S : Shp σ rt) (hz : H.size ≠ 0) (hf : Fit σ H.m rt) : Calls Try.prog 57 #[.pointer (some ⟨H.tb, 0, none⟩)] w fun e w' => ∃ j, e = .returned (.pointer (some ⟨j, 0, none⟩)) ∧ RFar σ rt j ∧ ∃ n, w' = w.drewN n := by
  obtain ⟨r, hrt, _⟩ := S.root
  have C := Lib.hid (right_walk h.st S hz (fun i di hi => by have h1 := (hf i di hi).1; have h2 := h.m3; omega) hrt)
  have g0 := h.st.hcells.1
  rw [hr] at g0
  simp only [ptr, Option.map_some] at g0
  clear h hrt hr S hz hf
  go_enter Try.func57, Try.ntmps57
  go_wp2_with fail
  refine C.out.mono ?_
  rintro e w1 ⟨j, rfl, hj, n, rfl⟩
  have HJ := Lib.hid hj
  clear hj
  go_wp2_with fail
  go_ret
  exact ⟨j, rfl, HJ.out, n, rfl⟩
set_option maxRecDepth 100000 in
theorem btRightKey_none (h : BtAt m o B w H σ α []) : Calls Try.prog 60 #[.pointer (some ⟨H.tb, 0, none⟩)] w fun e w' => e = .returned .nilIface ∧ w = w' := by
  have C := Lib.hid (btRight_none h)
  clear h
  go_enter Try.func60, Try.ntmps60
  go_wp2_with fail
  refine C.out.mono ?_
  rintro e w1 ⟨rfl, rfl⟩
  go_wp2_with fail
  go_ret
  exact ⟨rfl, rfl⟩
set_option maxHeartbeats 1000000 in
set_option maxRecDepth 100000 in
theorem btRightKey_some (h : BtAt m o B w H σ α l) {p : Int × Int} (hp : l[l.length - 1]? = some p) : Calls Try.prog 60 #[.pointer (some ⟨H.tb, 0, none⟩)] w fun e w' => e = .returned (.iface 3 (.int .i64 p.1)) ∧ ∃ n, w' = w.drewN n := by
  obtain ⟨rt, r, hr, S, hk, hfit, _, hz⟩ := h.top (fun e => by subst e; simp at hp)
  have C := Lib.hid (btRight_n h hr S hz hfit)
  have HH := Lib.hid h
  have SS := Lib.hid S
  have HK := Lib.hid hk
  have HF := Lib.hid hfit
  have HP := Lib.hid hp
  clear h hr S hk hfit hz hp
  go_enter Try.func60, Try.ntmps60
  go_wp2_with fail
  refine C.out.mono ?_
  rintro e w1 ⟨j, rfl, hj, n, rfl⟩
  clear C
  have S := SS.out
  have hfit := HF.out
  have hm6 := HH.out.m3
  have s1 := HH.out.st.drewN n
  obtain ⟨dl, hl⟩ : ∃ dl, σ j = some dl := by obtain ⟨r, hr, _⟩ := S.root; obtain ⟨dl, _, hl, _⟩ := hj.ctxt S _ _ (Ctxt.root S); exact ⟨dl, hl⟩
  obtain ⟨ea, f, hla⟩ : ∃ ea f, dl.es = ea ++ [f] := by
    rcases List.eq_nil_or_concat dl.es with hh | ⟨ea, f, hh⟩
    · have := (hfit j dl hl).2.2; rw [hh] at this; simp at this
    · exact ⟨ea, f, by simpa using hh⟩
  obtain ⟨X', sp⟩ := last_spot S hj hl hla
  have hfp : f.kv = p := by
    have h1 := sp.now S
    rw [HK.out] at h1
    have h2 := HP.out
    rw [h1] at h2
    simpa using h2
  have hla0 : dl.es[dl.es.length - 1]? = some f := by rw [hla]; simp
  obtain ⟨g, hg, hgc, _, hk0, hk1⟩ := s1.ent hl hla0
  have hl1 := (s1.cells hl).2.1
  rw [hg] at hl1
  subst hfp
  have hlen := (hfit j dl hl).2.2
  have hlen6 : dl.es.length ≤ 64 := by have h1 := (hfit j dl hl).1; have h2 := hm6; omega
  have ib0 : (0 : Int) < (dl.es.length : Int) := by omega
  have ib1 : 0 < dl.es.length := by omega
  have ib2 : ¬ dl.es.length = 0 := by omega
  have ib3 : (1 : Int) ≤ (dl.es.length : Int) := by omega
  have ib4 : (0 : Int) ≤ (dl.es.length : Int) - 1 := by omega
  have ib5 : (dl.es.length : Int) - 1 < (dl.es.length : Int) := by omega
  have ib6 : ((dl.es.length : Int) - 1).toNat = dl.es.length - 1 := by omega
  have ib7 : IntKind.i64.wrap ((dl.es.length : Int) - 1) = (dl.es.length : Int) - 1 := IntWalk.i64_in _ (by omega)
  have HW := Lib.hid (show ∃ k, w.drewN n = w.drewN k from ⟨n, rfl⟩)
  clear S hfit hm6 s1 hl hla hg sp hj hlen HP hla0
  generalize dl.es.length = nl at *
  generalize w.drewN n = w1 at *
  go_wp2_with fail
  go_quiet (fail)
  go_wp2_with fail
  go_ret
  obtain ⟨k, rfl⟩ := HW.out
  exact ⟨rfl, _, World.drewN_drewN _ _ _⟩
set_option maxRecDepth 100000 in
theorem btRightValue_none (h : BtAt m o B w H σ α []) : Calls Try.prog 61 #[.pointer (some ⟨H.tb, 0, none⟩)] w fun e w' => e = .returned .nilIface ∧ w = w' := by
  have C := Lib.hid (btRight_none h)
  clear h
  go_enter Try.func61, Try.ntmps61
  go_wp2_with fail
  refine C.out.mono ?_
  rintro e w1 ⟨rfl, rfl⟩
  go_wp2_with fail
  go_ret
  exact ⟨rfl, rfl⟩
set_option maxHeartbeats 1000000 in
set_option maxRecDepth 100000 in
theorem btRightValue_some (h : BtAt m o B w H σ α l) {p : Int × Int} (hp : l[l.length - 1]? = some p) : Calls Try.prog 61 #[.pointer (some ⟨H.tb, 0, none⟩)] w fun e w' => e = .returned (.iface 3 (.int .i64 p.2)) ∧ ∃ n, w' = w.drewN n := by
  obtain ⟨rt, r, hr, S, hk, hfit, _, hz⟩ := h.top (fun e => by subst e; simp at hp)
  have C := Lib.hid (btRight_n h hr S hz hfit)
  have HH := Lib.hid h
  have SS := Lib.hid S
  have HK := Lib.hid hk
  have HF := Lib.hid hfit
  have HP := Lib.hid hp
  clear h hr S hk hfit hz hp
  go_enter Try.func61, Try.ntmps61
  go_wp2_with fail
  refine C.out.mono ?_
  rintro e w1 ⟨j, rfl, hj, n, rfl⟩
  clear C
  have S := SS.out
  have hfit := HF.out
  have hm6 := HH.out.m3
  have s1 := HH.out.st.drewN n
  obtain ⟨dl, hl⟩ : ∃ dl, σ j = some dl := by obtain ⟨r, hr, _⟩ := S.root; obtain ⟨dl, _, hl, _⟩ := hj.ctxt S _ _ (Ctxt.root S); exact ⟨dl, hl⟩
  obtain ⟨ea, f, hla⟩ : ∃ ea f, dl.es = ea ++ [f] := by
    rcases List.eq_nil_or_concat dl.es with hh | ⟨ea, f, hh⟩
    · have := (hfit j dl hl).2.2; rw [hh] at this; simp at this
    · exact ⟨ea, f, by simpa using hh⟩
  obtain ⟨X', sp⟩ := last_spot S hj hl hla
  have hfp : f.kv = p := by
    have h1 := sp.now S
    rw [HK.out] at h1
    have h2 := HP.out
    rw [h1] at h2
    simpa using h2
  have hla0 : dl.es[dl.es.length - 1]? = some f := by rw [hla]; simp
  obtain ⟨g, hg, hgc, _, hk0, hk1⟩ := s1.ent hl hla0
  have hl1 := (s1.cells hl).2.1
  rw [hg] at hl1
  subst hfp
  have hlen := (hfit j dl hl).2.2
  have hlen6 : dl.es.length ≤ 64 := by have h1 := (hfit j dl hl).1; have h2 := hm6; omega
  have ib0 : (0 : Int) < (dl.es.length : Int) := by omega
  have ib1 : 0 < dl.es.length := by omega
  have ib2 : ¬ dl.es.length = 0 := by omega
  have ib3 : (1 : Int) ≤ (dl.es.length : Int) := by omega
  have ib4 : (0 : Int) ≤ (dl.es.length : Int) - 1 := by omega
  have ib5 : (dl.es.length : Int) - 1 < (dl.es.length : Int) := by omega
  have ib6 : ((dl.es.length : Int) - 1).toNat = dl.es.length - 1 := by omega
  have ib7 : IntKind.i64.wrap ((dl.es.length : Int) - 1) = (dl.es.length : Int) - 1 := IntWalk.i64_in _ (by omega)
  have HW := Lib.hid (show ∃ k, w.drewN n = w.drewN k from ⟨n, rfl⟩)
  clear S hfit hm6 s1 hl hla hg sp hj hlen HP hla0
  generalize dl.es.length = nl at *
  generalize w.drewN n = w1 at *
  go_wp2_with fail
  go_quiet (fail)
  go_wp2_with fail
  go_ret
  obtain ⟨k, rfl⟩ := HW.out
  exact ⟨rfl, _, World.drewN_drewN _ _ _⟩
end

set_option maxHeartbeats 2000000 in
set_option maxRecDepth 100000 in
theorem implBTreeLeft_walk (m : Int) (hm : 3 ≤ m ∧ m ≤ 64) (o : Ord) (ho : o.fine) (n cap : Nat) (A : Option Addr) (acts : List Do) (w : World) (hn : acts.length = n) (hn1 : n ≤ 1000) (ha : ActsAt w w.heap.size A acts) :
    Calls Try.prog 41 #[.int .i64 m, .agg #[.int .i64 o.kind, .int .i64 o.m], .slice A n cap] w fun e w' => e = .returned (tripV (run o acts)[0]?) ∧ Below w.heap.size w w' := by
  have Ha := Lib.hid ha
  clear ha
  go_enter Try.func41, Try.ntmps41
  go_wp2_with fail
  have B0 := Lib.hid (show Below w.heap.size w (w.alloc (.cells #[.int .i64 o.kind, .int .i64 o.m] 23)) from (Below.refl _ _).alloc (Nat.le_refl _) _)
  refine (bt_walk m hm o ho n cap A acts _ hn hn1 ((Ha.out.below B0.out).more (by simp))).mono ?_
  rintro e w1 ⟨tb, rfl, ⟨H, σ, α, ht, rfl⟩, b1⟩
  have B1 := Lib.hid (B0.out.trans (b1.mono (by simp)))
  clear b1 B0 Ha
  by_cases hl : run o acts = []
  · rw [hl] at ht
    have C := Lib.hid (btLeftKey_none ht)
    have HL := Lib.hid hl
    clear ht hl
    go_wp2_with fail
    refine C.out.mono ?_
    rintro e w2 ⟨rfl, rfl⟩
    go_wp2_with fail
    go_ret3
    exact ⟨by rw [HL.out]; rfl, B1.out⟩
  · obtain ⟨p, hp⟩ : ∃ p, (run o acts)[0]? = some p := ⟨_, List.getElem?_eq_getElem (by have := List.length_pos_iff.2 hl; omega)⟩
    have C := Lib.hid (fun (wx : World) (tx : BtAt m o (w.alloc (.cells #[.int .i64 o.kind, .int .i64 o.m] 23)).heap.size wx H σ α (run o acts)) => btLeftKey_some tx hp)
    have CV := Lib.hid (fun (wx : World) (tx : BtAt m o (w.alloc (.cells #[.int .i64 o.kind, .int .i64 o.m] 23)).heap.size wx H σ α (run o acts)) => btLeftValue_some tx hp)
    have HP := Lib.hid hp
    have T := Lib.hid ht
    clear ht hl hp
    go_wp2_with fail
    refine (C.out _ T.out).mono ?_
    rintro e w2 ⟨rfl, q, rfl⟩
    have T2 := Lib.hid (T.out.drewN q)
    have B2 := Lib.hid (Below.drewN' B1.out q)
    clear T B1
    generalize w1.drewN q = w2 at *
    go_wp2_with fail
    go_quiet ((first | (go_at_call 58; exact Calls.quiet_of (C.out _ (T2.out.drewN _))) | (go_at_call 59; exact Calls.quiet_of (CV.out _ (T2.out.drewN _)))))
    go_wp2_with fail
    go_ret3
    exact ⟨by rw [HP.out]; rfl, Below.drewN' B2.out _⟩

set_option maxHeartbeats 2000000 in
set_option maxRecDepth 100000 in
theorem implBTreeRight_walk (m : Int) (hm : 3 ≤ m ∧ m ≤ 64) (o : Ord) (ho : o.fine) (n cap : Nat) (A : Option Addr) (acts : List Do) (w : World) (hn : acts.length = n) (hn1 : n ≤ 1000) (ha : ActsAt w w.heap.size A acts) :
    Calls Try.prog 42 #[.int .i64 m, .agg #[.int .i64 o.kind, .int .i64 o.m], .slice A n cap] w fun e w' => e = .returned (tripV (run o acts)[(run o acts).length - 1]?) ∧ Below w.heap.size w w' := by
  have Ha := Lib.hid ha
  clear ha
  go_enter Try.func42, Try.ntmps42
  go_wp2_with fail
  have B0 := Lib.hid (show Below w.heap.size w (w.alloc (.cells #[.int .i64 o.kind, .int .i64 o.m] 23)) from (Below.refl _ _).alloc (Nat.le_refl _) _)
  refine (bt_walk m hm o ho n cap A acts _ hn hn1 ((Ha.out.below B0.out).more (by simp))).mono ?_
  rintro e w1 ⟨tb, rfl, ⟨H, σ, α, ht, rfl⟩, b1⟩
  have B1 := Lib.hid (B0.out.trans (b1.mono (by simp)))
  clear b1 B0 Ha
  by_cases hl : run o acts = []
  · rw [hl] at ht
    have C := Lib.hid (btRightKey_none ht)
    have HL := Lib.hid hl
    clear ht hl
    go_wp2_with fail
    refine C.out.mono ?_
    rintro e w2 ⟨rfl, rfl⟩
    go_wp2_with fail
    go_ret3
    exact ⟨by rw [HL.out]; rfl, B1.out⟩
  · obtain ⟨p, hp⟩ : ∃ p, (run o acts)[(run o acts).length - 1]? = some p := ⟨_, List.getElem?_eq_getElem (by have := List.length_pos_iff.2 hl; omega)⟩
    have C := Lib.hid (fun (wx : World) (tx : BtAt m o (w.alloc (.cells #[.int .i64 o.kind, .int .i64 o.m] 23)).heap.size wx H σ α (run o acts)) => btRightKey_some tx hp)
    have CV := Lib.hid (fun (wx : World) (tx : BtAt m o (w.alloc (.cells #[.int .i64 o.kind, .int .i64 o.m] 23)).heap.size wx H σ α (run o acts)) => btRightValue_some tx hp)
    have HP := Lib.hid hp
    have T := Lib.hid ht
    clear ht hl hp
    go_wp2_with fail
    refine (C.out _ T.out).mono ?_
    rintro e w2 ⟨rfl, q, rfl⟩
    have T2 := Lib.hid (T.out.drewN q)
    have B2 := Lib.hid (Below.drewN' B1.out q)
    clear T B1
    generalize w1.drewN q = w2 at *
    go_wp2_with fail
    go_quiet ((first | (go_at_call 60; exact Calls.quiet_of (C.out _ (T2.out.drewN _))) | (go_at_call 61; exact Calls.quiet_of (CV.out _ (T2.out.drewN _)))))
    go_wp2_with fail
    go_ret3
    exact ⟨by rw [HP.out]; rfl, Below.drewN' B2.out _⟩

/-- The keys of a node. -/
theorem bNode_none (w : World) : Calls Try.prog 54 #[.pointer none] w fun e w' => e = .returned (.tuple #[.slice (some ⟨w.heap.size, 0, none⟩) 0 0, .bool false]) ∧ w.alloc (.cells #[] 3) = w' := by
  go_enter Try.func54, Try.ntmps54
  go_wp2_with fail
  go_ret2
  exact ⟨rfl, rfl⟩
set_option maxHeartbeats 2000000 in
set_option maxRecDepth 100000 in
theorem bNode_some {B i n : Nat} {w : World} {H : Hd} {o : Ord} {σ : Store} {α : Nat → Arr} {d : ND} (s : St w B H o σ α) (h : σ i = some d) (hn : d.es.length = n) (hn1 : n ≤ 1000) :
    Calls Try.prog 54 #[.pointer (some ⟨i, 0, none⟩)] w fun e w' => ∃ A cap, e = .returned (.tuple #[.slice A n cap, .bool true]) ∧ w'.ownsRow w.heap.size 3 1 (.slice A n cap) n (intRow (d.es.map En.k)) ∧ Below w.heap.size w w' := by
  have HS := Lib.hid s
  have HH := Lib.hid h
  have HN := Lib.hid hn
  have B0 := Lib.hid (show Below w.heap.size w (w.alloc (.cells #[] 3)) from (Below.refl _ _).alloc (Nat.le_refl _) _)
  have h1 := ((s.below B0.out).cells h).2.1
  rw [hn] at h1
  clear s h hn
  go_enter Try.func54, Try.ntmps54
  go_wp2_with fail
  go_loopw [4, 16] (fun v j wr => ∃ (k : Nat) (A : Option Addr) (cap : Nat), k ≤ n ∧ j = .int .i64 k ∧ v = .slice A k cap ∧ wr.ownsRow w.heap.size 3 1 (.slice A k cap) k (intRow ((d.es.map En.k).take k)) ∧ Below w.heap.size w wr) (fun _ j _ => n - (intOf j).toNat)
  case atStart => exact ⟨0, _, 0, Nat.zero_le _, rfl, rfl, own_empty (Blk.new _ _ _) (Nat.le_refl _), B0.out⟩
  case round =>
    clear h1
    obtain ⟨k, A, cap, hk, rfl, rfl, hown, hw⟩ := hrel
    by_cases hlt : k < n
    · obtain ⟨x, hx⟩ : ∃ x, d.es[k]? = some x := ⟨_, List.getElem?_eq_getElem (by rw [HN.out]; exact hlt)⟩
      have s2 := HS.out.below hw
      obtain ⟨g, hg, hgc, _, hk0, _⟩ := s2.ent HH.out hx
      have HX := Lib.hid (show (d.es.map En.k)[k]? = some x.k by rw [List.getElem?_map, hx]; rfl)
      have OW := Lib.hid hown
      have W := Lib.hid hw
      have row := Lib.hid (fun k hk => (hown.lt k hk).1)
      clear hown hw hx s2
      try rw [hg]
      clear hg
      go_wp2_with (at_builtin; refine Hid.out ?_)
      delta Hid
      refine wpList_appT Try.underlying39 int_info rfl (by omega) rfl _ _ rfl w.heap.size (.slice A k cap) k (intRow ((d.es.map En.k).take k)) rfl (OW.out.alloc _) (some ⟨wr.heap.size, 0, none⟩) 1 1 (intRow [x.k]) rfl (src_blk (Blk.new _ _ _) rfl) (intRow_one _) (by omega) (by omega) (by have := W.out.size; simp; omega) ?_
      intro v1 w1 own1 gr1 _
      have b1 := (W.out.alloc W.out.size (.cells #[.int .i64 x.k] 3)).grown gr1 (by have := W.out.size; simp; omega) (fun k hk => by have := row.out k hk; omega)
      rw [← intRow_append, show (d.es.map En.k).take k ++ [x.k] = (d.es.map En.k).take (k + 1) by rw [List.take_add_one, HX.out]; rfl] at own1
      obtain ⟨A1, cap1, rfl, _, _⟩ := own_slice own1
      have F := Lib.hid (show w1.ownsRow _ _ _ _ _ _ ∧ Below _ _ _ from ⟨own1, b1⟩)
      clear own1 b1 gr1 OW W row HX
      go_wp2_with fail
      go_roundw
      case rel => exact ⟨k + 1, A1, cap1, by omega, by go_num, rfl, F.out⟩
      case measure => simp [intOf]; omega
    · obtain rfl : k = n := by omega
      rw [List.take_of_length_le (by rw [List.length_map]; have := HN.out; omega)] at hown
      have F := Lib.hid (show wr.ownsRow _ _ _ _ _ _ ∧ Below _ _ _ from ⟨hown, hw⟩)
      clear hown hw
      go_wp2_with fail
      go_ret2
      exact ⟨A, cap, rfl, F.out⟩

/-- What BTreeNode answers. -/
structure KeysOf (l : KV) (o : Ord) (k : Int) (xs : List Int) (b : Bool) : Prop where
  is : (look o k l = none ∧ xs = [] ∧ b = false) ∨ ∃ p, look o k l = some p ∧ p.1 ∈ xs ∧ b = true
  sub : ∀ x ∈ xs, ∃ v, (x, v) ∈ l
  len : xs.length ≤ 1000

set_option maxHeartbeats 2000000 in
set_option maxRecDepth 100000 in
theorem implBTreeNode_walk (m : Int) (hm : 3 ≤ m ∧ m ≤ 64) (o : Ord) (ho : o.fine) (n cap : Nat) (A : Option Addr) (acts : List Do) (k : Int) (w : World) (hn : acts.length = n) (hn1 : n ≤ 1000) (ha : ActsAt w w.heap.size A acts) :
    Calls Try.prog 39 #[.int .i64 m, .agg #[.int .i64 o.kind, .int .i64 o.m], .slice A n cap, .int .i64 k] w fun e w' =>
      ∃ A' cap' xs b, e = .returned (.tuple #[.slice A' xs.length cap', .bool b]) ∧ w'.ownsRow w.heap.size 3 1 (.slice A' xs.length cap') xs.length (intRow xs) ∧ KeysOf (run o acts) o k xs b ∧ Below w.heap.size w w' := by
  have Ha := Lib.hid ha
  clear ha
  go_enter Try.func39, Try.ntmps39
  go_wp2_with fail
  have B0 := Lib.hid (show Below w.heap.size w (w.alloc (.cells #[.int .i64 o.kind, .int .i64 o.m] 23)) from (Below.refl _ _).alloc (Nat.le_refl _) _)
  refine (bt_walk m hm o ho n cap A acts _ hn hn1 ((Ha.out.below B0.out).more (by simp))).mono ?_
  rintro e w1 ⟨tb, rfl, ⟨H, σ, α, ht, rfl⟩, b1⟩
  have B1 := Lib.hid (B0.out.trans (b1.mono (by simp)))
  have G := Lib.hid (btGetNode_walk ht k)
  have T := Lib.hid ht
  clear b1 B0 Ha ht
  go_wp2_with fail
  refine G.out.mono ?_
  rintro e w2 ⟨hc, q, rfl⟩
  clear G
  rcases hc with ⟨i, j, d, en, rfl, hi, he, hlk⟩ | ⟨rfl, hlk⟩
  · have t2 := T.out.drewN q
    have hx : ∃ rt, Shp σ rt ∧ nk σ rt = run o acts ∧ d.es.length ≤ 1000 := by
      rcases t2.rooted with ⟨h1, h2⟩ | ⟨rt, h1, S, h3, h4⟩
      · rw [h2] at hlk; simp [look] at hlk
      · exact ⟨rt, S, h3, by have h5 := (h4 i d hi).1; have h6 := t2.m3; omega⟩
    obtain ⟨rt, S, hnk, hlen⟩ := hx
    have C := Lib.hid (bNode_some t2.st hi rfl hlen)
    have B2 := Lib.hid (Below.drewN' B1.out q)
    have HK := Lib.hid (show KeysOf (run o acts) o k (d.es.map En.k) true from ⟨.inr ⟨en.kv, hlk, List.mem_map.2 ⟨en, List.mem_of_getElem? he, rfl⟩, rfl⟩, fun x hx => by
      obtain ⟨e', he', rfl⟩ := List.mem_map.1 hx
      refine ⟨e'.v, ?_⟩
      obtain ⟨L, R, cx⟩ := Ctxt.ex S hi
      have h1 := cx.now
      rw [hnk] at h1
      rw [h1]
      have := mem_nk S hi he'
      exact List.mem_append.2 (.inr (List.mem_append.2 (.inl this))), by rw [List.length_map]; exact hlen⟩)
    have HL := Lib.hid (show (d.es.map En.k).length = d.es.length from List.length_map _)
    clear t2 hi he hlk S hnk hlen
    generalize w1.drewN q = w2 at *
    go_wp2_with fail
    refine C.out.mono ?_
    rintro e w3 ⟨A', cap', rfl, own, b3⟩
    have F := Lib.hid (show w3.ownsRow w.heap.size _ _ _ _ _ ∧ Below w.heap.size w w3 from ⟨own_base own B2.out.size, B2.out.trans (b3.mono B2.out.size)⟩)
    clear own b3 C
    go_wp2_with fail
    go_ret2
    exact ⟨A', cap', d.es.map En.k, true, by rw [HL.out]; rfl, by rw [HL.out]; exact F.out.1, HK.out, F.out.2⟩
  · have B2 := Lib.hid (Below.drewN' B1.out q)
    have HK := Lib.hid (show KeysOf (run o acts) o k [] false from ⟨.inl ⟨hlk, rfl, rfl⟩, fun x hx => (by cases hx), by simp⟩)
    clear hlk
    generalize w1.drewN q = w2 at *
    go_wp2_with fail
    refine (bNode_none _).mono ?_
    rintro e w3 ⟨rfl, rfl⟩
    have F := Lib.hid (show (w2.alloc (.cells #[] 3)).ownsRow w.heap.size 3 1 (.slice (some ⟨w2.heap.size, 0, none⟩) 0 0) 0 (intRow []) ∧ Below w.heap.size w (w2.alloc (.cells #[] 3)) from ⟨own_empty (Blk.new _ _ _) B2.out.size, B2.out.alloc B2.out.size _⟩)
    go_wp2_with fail
    go_ret2
    exact ⟨_, _, [], false, rfl, F.out.1, HK.out, F.out.2⟩

/-- What BTreeEnds answers. -/
structure EndsOf (l : KV) (xs ys : List Int) : Prop where
  none : l = [] → xs = [] ∧ ys = []
  fst : ∀ p, l[0]? = some p → xs[0]? = some p.1
  lst : ∀ p, l[l.length - 1]? = some p → ys[ys.length - 1]? = some p.1
  len : xs.length ≤ 1000 ∧ ys.length ≤ 1000

set_option maxHeartbeats 4000000 in
set_option maxRecDepth 100000 in
theorem implBTreeEnds_walk (m : Int) (hm : 3 ≤ m ∧ m ≤ 64) (o : Ord) (ho : o.fine) (n cap : Nat) (A : Option Addr) (acts : List Do) (w : World) (hn : acts.length = n) (hn1 : n ≤ 1000) (ha : ActsAt w w.heap.size A acts) :
    Calls Try.prog 40 #[.int .i64 m, .agg #[.int .i64 o.kind, .int .i64 o.m], .slice A n cap] w fun e w' =>
      ∃ A1 c1 xs A2 c2 ys, e = .returned (.tuple #[.slice A1 xs.length c1, .slice A2 ys.length c2]) ∧ w'.ownsRow w.heap.size 3 1 (.slice A1 xs.length c1) xs.length (intRow xs) ∧ w'.ownsRow w.heap.size 3 1 (.slice A2 ys.length c2) ys.length (intRow ys) ∧ EndsOf (run o acts) xs ys ∧ Below w.heap.size w w' := by
  have Ha := Lib.hid ha
  clear ha
  go_enter Try.func40, Try.ntmps40
  go_wp2_with fail
  have B0 := Lib.hid (show Below w.heap.size w (w.alloc (.cells #[.int .i64 o.kind, .int .i64 o.m] 23)) from (Below.refl _ _).alloc (Nat.le_refl _) _)
  refine (bt_walk m hm o ho n cap A acts _ hn hn1 ((Ha.out.below B0.out).more (by simp))).mono ?_
  rintro e w1 ⟨tb, rfl, ⟨H, σ, α, ht, rfl⟩, b1⟩
  have B1 := Lib.hid (B0.out.trans (b1.mono (by simp)))
  clear b1 B0 Ha
  generalize hL : run o acts = l at *
  have HLL := Lib.hid hL
  clear hL
  by_cases hl : l = []
  · subst hl
    have CL := Lib.hid (btLeft_none ht)
    have T := Lib.hid ht
    clear ht
    go_wp2_with fail
    refine CL.out.mono ?_
    rintro e w2 ⟨rfl, rfl⟩
    clear CL
    go_wp2_with fail
    refine (bNode_none _).mono ?_
    rintro e w3 ⟨rfl, rfl⟩
    have F1 := Lib.hid (show (w1.alloc (.cells #[] 3)).ownsRow w.heap.size 3 1 (.slice (some ⟨w1.heap.size, 0, none⟩) 0 0) 0 (intRow []) ∧ Below w.heap.size w (w1.alloc (.cells #[] 3)) from ⟨own_empty (Blk.new _ _ _) B1.out.size, B1.out.alloc B1.out.size _⟩)
    have T2 := Lib.hid (T.out.below ((Below.refl _ _).alloc (Nat.le_refl _) (.cells #[] 3)))
    have CR := Lib.hid (btRight_none T2.out)
    generalize w1.heap.size = g1 at *
    generalize w1.alloc (.cells #[] 3) = w3 at *
    go_wp2_with fail
    refine CR.out.mono ?_
    rintro e w4 ⟨rfl, rfl⟩
    clear CR
    go_wp2_with fail
    refine (bNode_none _).mono ?_
    rintro e w5 ⟨rfl, rfl⟩
    have F2 := Lib.hid (show (w3.alloc (.cells #[] 3)).ownsRow w.heap.size 3 1 (.slice (some ⟨w3.heap.size, 0, none⟩) 0 0) 0 (intRow []) ∧ Below w.heap.size w (w3.alloc (.cells #[] 3)) from ⟨own_empty (Blk.new _ _ _) F1.out.2.size, F1.out.2.alloc F1.out.2.size _⟩)
    go_wp2_with fail
    go_ret2
    exact ⟨_, _, [], _, _, [], rfl, F1.out.1.alloc _, F2.out.1, by rw [HLL.out]; exact ⟨fun _ => ⟨rfl, rfl⟩, fun p hp => (by cases hp), fun p hp => (by cases hp), ⟨Nat.zero_le _, Nat.zero_le _⟩⟩, F2.out.2⟩
  · obtain ⟨rt, r, hr, S, hk, hf, _, hz⟩ := ht.top hl
    have T := Lib.hid ht
    have SS := Lib.hid S
    have HR := Lib.hid hr
    have HK := Lib.hid hk
    have HF := Lib.hid hf
    have HZ := Lib.hid hz
    have HL := Lib.hid hl
    have CL := Lib.hid (btLeft_n ht hr S hz)
    clear ht hr S hk hf hz hl
    go_wp2_with fail
    refine CL.out.mono ?_
    rintro e w2 ⟨j, rfl, hj, q, rfl⟩
    clear CL
    have t2 := T.out.drewN q
    have hm6 := T.out.m3
    obtain ⟨dl, hdl⟩ : ∃ dl, σ j = some dl := by obtain ⟨dl, _, h1, _⟩ := hj.ctxt SS.out _ _ (Ctxt.root SS.out); exact ⟨dl, h1⟩
    have hfl := HF.out j dl hdl
    obtain ⟨f, hfe⟩ : ∃ f, dl.es[0]? = some f := ⟨_, List.getElem?_eq_getElem hfl.2.2⟩
    obtain ⟨X', sp⟩ := first_spot SS.out hj hdl hfe
    have X1 := Lib.hid (show ∀ p, l[0]? = some p → (dl.es.map En.k)[0]? = some p.1 from fun p hp => by
      have h1 := sp.now SS.out
      rw [HK.out] at h1
      rw [h1] at hp
      simp only [List.nil_append, List.getElem?_cons_zero, Option.some.injEq] at hp
      subst hp
      rw [List.getElem?_map, hfe]; rfl)
    have CN := Lib.hid (bNode_some t2.st hdl rfl (by have := hfl.1; omega))
    have B2 := Lib.hid (Below.drewN' B1.out q)
    have T2 := Lib.hid t2
    have LX := Lib.hid (show (dl.es.map En.k).length = dl.es.length ∧ dl.es.length ≤ 1000 from ⟨List.length_map _, by have := hfl.1; omega⟩)
    clear t2 hj hdl hfl hfe sp T B1
    generalize w1.drewN q = w2 at *
    go_wp2_with fail
    refine CN.out.mono ?_
    rintro e w3 ⟨A1, c1, rfl, own1, b3⟩
    have F1 := Lib.hid (show w3.ownsRow w.heap.size _ _ _ _ _ ∧ Below w.heap.size w w3 from ⟨own_base own1 B2.out.size, B2.out.trans (b3.mono B2.out.size)⟩)
    have T3 := Lib.hid (T2.out.below b3)
    have CR := Lib.hid (btRight_n T3.out HR.out SS.out HZ.out HF.out)
    clear own1 b3 CN T2 B2
    go_wp2_with fail
    refine CR.out.mono ?_
    rintro e w4 ⟨j2, rfl, hj, q2, rfl⟩
    clear CR
    have t2 := T3.out.drewN q2
    obtain ⟨d2, hdl⟩ : ∃ d2, σ j2 = some d2 := by obtain ⟨dl, _, h1, _⟩ := hj.ctxt SS.out _ _ (Ctxt.root SS.out); exact ⟨dl, h1⟩
    have hfl := HF.out j2 d2 hdl
    obtain ⟨ea, f2, hla⟩ : ∃ ea f, d2.es = ea ++ [f] := by
      rcases List.eq_nil_or_concat d2.es with hh | ⟨ea, f, hh⟩
      · have := hfl.2.2; rw [hh] at this; simp at this
      · exact ⟨ea, f, by simpa using hh⟩
    obtain ⟨X2', sp⟩ := last_spot SS.out hj hdl hla
    have X2 := Lib.hid (show ∀ p, l[l.length - 1]? = some p → (d2.es.map En.k)[(d2.es.map En.k).length - 1]? = some p.1 from fun p hp => by
      have h1 := sp.now SS.out
      rw [HK.out] at h1
      rw [h1] at hp
      simp only [List.length_append, List.length_singleton, Nat.add_sub_cancel, List.getElem?_append_right (Nat.le_refl _), Nat.sub_self, List.getElem?_cons_zero, Option.some.injEq] at hp
      subst hp
      rw [hla]; simp [En.kv])
    have CN := Lib.hid (bNode_some t2.st hdl rfl (by have := hfl.1; omega))
    have F2 := Lib.hid (show (w3.drewN q2).ownsRow w.heap.size _ _ _ _ _ ∧ Below w.heap.size w (w3.drewN q2) from ⟨F1.out.1, Below.drewN' F1.out.2 q2⟩)
    have LY := Lib.hid (show (d2.es.map En.k).length = d2.es.length ∧ d2.es.length ≤ 1000 from ⟨List.length_map _, by have := hfl.1; omega⟩)
    clear t2 hj hdl hfl hla sp T3 F1 hm6
    generalize w3.drewN q2 = w4 at *
    go_wp2_with fail
    refine CN.out.mono ?_
    rintro e w5 ⟨A2, c2, rfl, own2, b5⟩
    have F3 := Lib.hid (show w5.ownsRow w.heap.size 3 1 (.slice A1 dl.es.length c1) dl.es.length (intRow (dl.es.map En.k)) ∧ w5.ownsRow w.heap.size 3 1 (.slice A2 d2.es.length c2) d2.es.length (intRow (d2.es.map En.k)) ∧ Below w.heap.size w w5 from ⟨own_below F2.out.1 b5, own_base own2 F2.out.2.size, F2.out.2.trans (b5.mono F2.out.2.size)⟩)
    clear own2 b5 CN F2
    go_wp2_with fail
    go_ret2
    refine ⟨A1, c1, dl.es.map En.k, A2, c2, d2.es.map En.k, by rw [LX.out.1, LY.out.1]; rfl, by rw [LX.out.1]; exact F3.out.1, by rw [LY.out.1]; exact F3.out.2.1, by rw [HLL.out]; exact ⟨fun h => absurd h HL.out, X1.out, X2.out, ⟨by rw [LX.out.1]; exact LX.out.2, by rw [LY.out.1]; exact LY.out.2⟩⟩, F3.out.2.2⟩

end Go.Proofs.Ytpkgmgebhnhhjaa.Bt
