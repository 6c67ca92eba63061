/-
  Several texts as one (BtGet, KeptBt): each says its own in its remarks.
-/
import Derived.Test.YtpkgmgebhnhhjaaBases
import Derived.Test.YtpkgmgebhnhhjaaBtTops
import Derived.Test.YtpkgmgebhnhhjaaKept
import Derived.Test.YtpkgmgebhnhhjaaBtStates
namespace Go.Proofs.Ytpkgmgebhnhhjaa.Bt
open Go.RowKit Go.Proofs.Ytpkgmgebhnhhjaa

section
variable {m : Int} {o : Ord} {B tb x : Nat} {w w' : World} {H : Hd} {σ : Store} {α : Nat → Arr} {l : KV} {d : ND}

set_option maxHeartbeats 1000000 in
set_option maxRecDepth 100000 in
theorem btGet_walk (h : BtHas m o B w tb l) (k : Int) :
    Calls Try.prog 46 #[.pointer (some ⟨tb, 0, none⟩), .iface 3 (.int .i64 k)] w fun e w' => e = .returned (gotI (look o k l)) ∧ ∃ n, w' = w.drewN n := by
  obtain ⟨H, σ, α, h, rfl⟩ := h
  obtain ⟨g0, _, g2, _⟩ := h.st.hcells
  by_cases hl0 : l = []
  · subst hl0
    rw [h.none] at g0
    simp only [ptr, Option.map_none] at g0
    have C := Lib.hid (srec_none h (.iface 3 (.int .i64 k)) (.pointer none))
    clear h g2
    go_enter Try.func46, Try.ntmps46
    go_wp2_with fail
    refine C.out.mono ?_
    rintro e w1 ⟨rfl, rfl⟩
    go_wp2_with fail
    go_ret2
    exact ⟨rfl, 0, rfl⟩
  · have C := Lib.hid (srec_walk h hl0 k)
    have HH := Lib.hid h
    clear h hl0 g2
    generalize hrv : ptr H.root = rv at *
    go_enter Try.func46, Try.ntmps46
    go_wp2_with fail
    refine C.out.mono ?_
    rintro e w1 ⟨hc, n, rfl⟩
    clear C
    rcases hc with ⟨i, q, d, en, rfl, hi, he, hke, hlk⟩ | ⟨rfl, hlk⟩
    · have s2 := HH.out.st.drewN n
      obtain ⟨g, hg, hgc, _, _, hev⟩ := s2.ent hi he
      have h1 := (s2.cells hi).2.1
      rw [hg] at h1
      have i0 : (0 : Int) ≤ (q : Int) := by omega
      have i1 : (q : Int) < (d.es.length : Int) := by have := (List.getElem?_eq_some_iff.1 he).1; omega
      have HLK := Lib.hid hlk
      have HW := Lib.hid (show ∃ j, w.drewN n = w.drewN j from ⟨n, rfl⟩)
      clear s2 hg hi he hke hlk g0
      generalize d.es.length = nd at *
      generalize w.drewN n = w2 at *
      go_wp2_with fail
      go_ret2
      exact ⟨by rw [HLK.out]; rfl, HW.out⟩
    · have HLK := Lib.hid hlk
      clear hlk g0
      go_wp2_with fail
      go_ret2
      exact ⟨by rw [HLK.out]; rfl, n, rfl⟩
set_option maxHeartbeats 1000000 in
set_option maxRecDepth 100000 in
theorem btGetNode_walk (h : BtAt m o B w H σ α l) (k : Int) :
    Calls Try.prog 55 #[.pointer (some ⟨H.tb, 0, none⟩), .iface 3 (.int .i64 k)] w fun e w' =>
      ((∃ (i n : Nat) (d : ND) (en : En), e = .returned (.pointer (some ⟨i, 0, none⟩)) ∧ σ i = some d ∧ d.es[n]? = some en ∧ look o k l = some en.kv) ∨ (e = .returned (.pointer none) ∧ look o k l = none)) ∧ ∃ n, w' = w.drewN n := by
  obtain ⟨g0, _, g2, _⟩ := h.st.hcells
  by_cases hl0 : l = []
  · subst hl0
    rw [h.none] at g0
    simp only [ptr, Option.map_none] at g0
    have C := Lib.hid (srec_none h (.iface 3 (.int .i64 k)) (.pointer none))
    clear h g2
    go_enter Try.func55, Try.ntmps55
    go_wp2_with fail
    refine C.out.mono ?_
    rintro e w1 ⟨rfl, rfl⟩
    go_wp2_with fail
    go_ret
    exact ⟨.inr ⟨rfl, rfl⟩, 0, rfl⟩
  · have C := Lib.hid (srec_walk h hl0 k)
    clear h hl0 g2
    generalize hrv : ptr H.root = rv at *
    go_enter Try.func55, Try.ntmps55
    go_wp2_with fail
    refine C.out.mono ?_
    rintro e w1 ⟨hc, n, rfl⟩
    clear C
    rcases hc with ⟨i, q, d, en, rfl, hi, he, hke, hlk⟩ | ⟨rfl, hlk⟩
    · have F := Lib.hid (And.intro hi (And.intro he hlk))
      clear hi he hke hlk g0
      go_wp2_with fail
      go_ret
      exact ⟨.inl ⟨i, q, d, en, rfl, F.out⟩, n, rfl⟩
    · have F := Lib.hid hlk
      clear hlk g0
      go_wp2_with fail
      go_ret
      exact ⟨.inr ⟨rfl, F.out⟩, n, rfl⟩
end

/-- The thin package's BTreeGet answers what the reference finds. -/
theorem implBTreeGet_walk (m : Int) (hm : 3 ≤ m ∧ m ≤ 64) (o : Ord) (ho : o.fine) (n cap : Nat) (A : Option Addr) (acts : List Do) (k : Int) (w : World) (hn : acts.length = n) (hn1 : n ≤ 1000) (ha : ActsAt w w.heap.size A acts) :
    Calls Try.prog 27 #[.int .i64 m, .agg #[.int .i64 o.kind, .int .i64 o.m], .slice A n cap, .int .i64 k] w fun e w' => e = .returned (gotV (look o k (run o acts))) ∧ Below w.heap.size w w' := by
  have Ha := Lib.hid ha
  clear ha
  go_enter Try.func27, Try.ntmps27
  go_wp2_with fail
  have b0 : Below w.heap.size w (w.alloc (.cells #[.int .i64 o.kind, .int .i64 o.m] 23)) := (Below.refl _ _).alloc (Nat.le_refl _) _
  have B0 := Lib.hid b0
  clear b0
  refine (bt_walk m hm o ho n cap A acts _ hn hn1 ((Ha.out.below B0.out).more (by simp))).mono ?_
  rintro e w1 ⟨tb, rfl, ht, b1⟩
  have avg := btGet_walk ht k
  have B1 := Lib.hid (B0.out.trans (b1.mono (by simp)))
  clear ht b1
  cases hq : look o k (run o acts) with
  | some p =>
    rw [hq] at avg
    have Hq := Lib.hid hq
    have Avg := Lib.hid avg
    clear hq avg
    go_wp2_with fail
    refine Avg.out.mono ?_
    rintro e w2 ⟨rfl, q, rfl⟩
    simp only [gotI]
    go_wp2_with fail
    refine (valueOf_some _ _).mono ?_
    rintro e w3 ⟨rfl, rfl⟩
    go_wp2_with fail
    go_ret2
    exact ⟨by rw [Hq.out]; rfl, B1.out.trans ⟨rfl, rfl, rfl, Nat.le_refl _, fun _ _ => rfl⟩⟩
  | none =>
    rw [hq] at avg
    have Hq := Lib.hid hq
    have Avg := Lib.hid avg
    clear hq avg
    go_wp2_with fail
    refine Avg.out.mono ?_
    rintro e w2 ⟨rfl, q, rfl⟩
    simp only [gotI]
    go_wp2_with fail
    refine (valueOf_none _).mono ?_
    rintro e w3 ⟨rfl, rfl⟩
    go_wp2_with fail
    go_ret2
    exact ⟨by rw [Hq.out]; rfl, B1.out.trans ⟨rfl, rfl, rfl, Nat.le_refl _, fun _ _ => rfl⟩⟩

end Go.Proofs.Ytpkgmgebhnhhjaa.Bt

namespace Go.Proofs.Ytpkgmgebhnhhjaa.Bt
open Go.RowKit Go.Proofs.Ytpkgmgebhnhhjaa

section
variable {w0 w w' : World} {g B C : Nat} {o : Ord} {rows : List (Option Addr × List Value)} {sts : List (Value × KV)}
theorem keptGet (m : Int) (hm : 3 ≤ m ∧ m ≤ 64) (h : Kept w0 g o rows sts B w) (ho : o.fine) (A : Option Addr) (acts : List Do) (k : Int) (n cap : Nat) (hn : acts.length = n) (hn1 : n ≤ 1000) (hm2 : (A, actCells acts) ∈ rows) :
    Calls Try.prog 27 #[.int .i64 m, .agg #[.int .i64 o.kind, .int .i64 o.m], .slice A n cap, .int .i64 k] w fun e w' => e = .returned (gotV (look o k (run o acts))) ∧ Kept w0 g o rows sts w'.heap.size w' := by
  refine (implBTreeGet_walk m hm o ho n cap A acts k w hn hn1 ((h.rows _ hm2).acts.more h.le)).mono ?_
  rintro e w' ⟨rfl, b⟩
  exact ⟨rfl, h.on b⟩
end
end Go.Proofs.Ytpkgmgebhnhhjaa.Bt
