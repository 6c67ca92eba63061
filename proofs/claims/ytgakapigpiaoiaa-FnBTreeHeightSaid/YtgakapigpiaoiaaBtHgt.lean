import Derived.Test.YtgakapigpiaoiaaBtShape
import Derived.Test.YtgakapigpiaoiaaBtMakeT
namespace Go.Proofs.Ytgakapigpiaoiaa.Bt
open Go.RowKit Go.Proofs.Ytgakapigpiaoiaa
noncomputable def hgtS : Option Tr → Nat
  | none => 0
  | some t => depT t + 1
theorem hgtS_none {σ : Store} {T : Option Tr} {x : Option Nat} (h : x.map (abs σ) = T) (hx : x = Option.none) : 0 = hgtS T := by
  subst hx
  subst h
  rfl
theorem hgtS_some {σ : Store} {T : Option Tr} {x : Option Nat} {rt : Nat} {r : ND} (h : x.map (abs σ) = T) (hx : x = Option.some rt) (S : Shp σ rt) (hr : σ rt = some r) : r.lv + 1 = hgtS T := by
  subst hx
  subst h
  show r.lv + 1 = depT (abs σ rt) + 1
  rw [depT_abs S hr]
set_option maxHeartbeats 2000000 in
set_option maxRecDepth 100000 in
theorem implBTreeShapeT_walk (m : Int) (hm : 3 ≤ m ∧ m ≤ 64) (o : Ord) (ho : o.fine) (n cap : Nat) (A : Option Addr) (acts : List Do) (w : World) (hn : acts.length = n) (hn1 : n ≤ 1000) (ha : ActsAt w w.heap.size A acts) :
    Calls Try.prog 8 #[.int .i64 m, .agg #[.int .i64 o.kind, .int .i64 o.m], .slice A n cap] w fun e w' =>
      ∃ (L : List BK) (h : Nat) (A' : Option Addr) (cap' : Nat), e = .returned (.slice A' L.length cap') ∧ L.length ≤ 1000 ∧ ListAt w' w'.heap.size A' L ∧ ShapeOf m (run o acts) L h ∧ h = hgtS (runS m o acts) ∧ Below w.heap.size w w' := by
  have hr := run_length_le o acts
  have Hr := Lib.hid hr
  have Ha := Lib.hid ha
  clear ha hr
  go_enter Try.func8, Try.ntmps8
  go_wp2_with fail
  have B0 := Lib.hid (show Below w.heap.size w ((w.alloc (.cells #[.int .i64 o.kind, .int .i64 o.m] 23)).alloc (.cells #[] 39)) from ((Below.refl _ _).alloc (Nat.le_refl _) _).alloc (by simp) _)
  have OW := Lib.hid (own_empty (w := (w.alloc (.cells #[.int .i64 o.kind, .int .i64 o.m] 23)).alloc (.cells #[] 39)) (base := w.heap.size) (g := w.heap.size + 1) (e := 39) (size := 5) (Blk.newAt (by simp) _ _) (by omega))
  have Z0 := Lib.hid (show ((w.alloc (.cells #[.int .i64 o.kind, .int .i64 o.m] 23)).alloc (.cells #[] 39)).heap.size = w.heap.size + 1 + 1 by simp)
  have hc := Lib.hid (show ActsAt ((w.alloc (.cells #[.int .i64 o.kind, .int .i64 o.m] 23)).alloc (.cells #[] 39)) ((w.alloc (.cells #[.int .i64 o.kind, .int .i64 o.m] 23)).alloc (.cells #[] 39)).heap.size A acts from (Ha.out.below B0.out).more (by simp; omega))
  generalize (w.alloc (.cells #[.int .i64 o.kind, .int .i64 o.m] 23)).alloc (.cells #[] 39) = w0 at *
  refine (bt_walkT m hm o ho n cap A acts w0 hn hn1 hc.out).mono ?_
  rintro e w1 ⟨tb, rfl, ⟨H, σ, α, ht, rfl, hT⟩, b1⟩
  have hsl := ht.st.hcells.1
  have HS := Lib.hid ht.st
  have O1 := Lib.hid (own_below OW.out b1)
  have B1 := Lib.hid (B0.out.trans (b1.mono (by have := Z0.out; omega)))
  have Z1 := Lib.hid (show w.heap.size ≤ w1.heap.size by have := b1.size; have := Z0.out; omega)
  have NB := Lib.hid (show ∀ b ∈ blks (some ⟨w.heap.size + 1, 0, none⟩), w.heap.size ≤ b from fun b hb => by simp [blks] at hb; omega)
  rcases ht.shape (by have := Hr.out; omega) with ⟨hrt, sh⟩ | ⟨rt, r, hrt, S, hr, sh, hlen, hcn, hlv, hfe, hup⟩
  · have SH := Lib.hid sh
    have HT := Lib.hid (hgtS_none hT hrt)
    rw [hrt] at hsl
    simp only [ptr, Option.map_none] at hsl
    clear hT
    clear b1 hc OW Ha B0 ht sh hrt
    go_wp2_with fail
    refine (blocks_nil _ _ _ _ _).mono ?_
    rintro e w2 ⟨rfl, rfl⟩
    go_wp2_with fail
    go_ret
    exact ⟨[], 0, some ⟨w.heap.size + 1, 0, none⟩, 0, rfl, by simp, fun j x hx => by simp at hx, SH.out, HT.out, B1.out⟩
  · have SH := Lib.hid sh
    have HT := Lib.hid (hgtS_some hT hrt S hr)
    rw [hrt] at hsl
    simp only [ptr, Option.map_some] at hsl
    clear hT
    have HL := Lib.hid hlen
    have HC := Lib.hid hcn
    have CB := Lib.hid (blocks_walk S hfe w.heap.size rt r hr w1 (some ⟨w.heap.size + 1, 0, none⟩) 0 0 [] (-1) rfl HS.out O1.out Z1.out (by omega) hup)
    clear b1 hc OW Ha B0 ht sh hrt hlen hcn hfe hup hr hlv
    go_wp2_with fail
    refine CB.out.mono ?_
    rintro e w2 ⟨A', cap', C', rfl, own, low, on, oi⟩
    simp only [Nat.zero_add, List.nil_append] at own
    rw [← HL.out] at own
    have F := Lib.hid (show ListAt w2 w2.heap.size A' (bks σ rt 0 (-1)) ∧ Below w.heap.size w w2 from ⟨ListAt.of_own own low, B1.out.trans (on.below (fun b hb => NB.out b hb) Z1.out)⟩)
    clear own low on oi CB
    simp only [Nat.zero_add]
    rw [← HL.out]
    have HL5 := Lib.hid (show (bks σ rt 0 (-1)).length ≤ 1000 by rw [HL.out]; exact HC.out)
    generalize bks σ rt 0 (-1) = L at *
    go_wp2_with fail
    go_ret
    exact ⟨L, r.lv + 1, A', cap', rfl, HL5.out, F.out.1, SH.out, HT.out, F.out.2⟩
set_option maxHeartbeats 2000000 in
set_option maxRecDepth 100000 in
theorem implBTreeHeightT_walk (m : Int) (hm : 3 ≤ m ∧ m ≤ 64) (o : Ord) (ho : o.fine) (n cap : Nat) (A : Option Addr) (acts : List Do) (w : World) (hn : acts.length = n) (hn1 : n ≤ 1000) (ha : ActsAt w w.heap.size A acts) :
    Calls Try.prog 15 #[.int .i64 m, .agg #[.int .i64 o.kind, .int .i64 o.m], .slice A n cap] w fun e w' =>
      ∃ (L : List BK) (h : Nat), e = .returned (.int .i64 h) ∧ ShapeOf m (run o acts) L h ∧ h = hgtS (runS m o acts) ∧ Below w.heap.size w w' := by
  have hr := run_length_le o acts
  have Hr := Lib.hid hr
  have Ha := Lib.hid ha
  clear ha hr
  go_enter Try.func15, Try.ntmps15
  go_wp2_with fail
  have B0 := Lib.hid (show Below w.heap.size w (w.alloc (.cells #[.int .i64 o.kind, .int .i64 o.m] 23)) from (Below.refl _ _).alloc (Nat.le_refl _) _)
  refine (bt_walkT m hm o ho n cap A acts _ hn hn1 ((Ha.out.below B0.out).more (by simp))).mono ?_
  rintro e w1 ⟨tb, rfl, ⟨H, σ, α, ht, rfl, hT⟩, b1⟩
  have hsl := ht.st.hcells.1
  have HS := Lib.hid ht.st
  have B1 := Lib.hid (B0.out.trans (b1.mono (by simp)))
  rcases ht.shape (by have := Hr.out; omega) with ⟨hrt, sh⟩ | ⟨rt, r, hrt, S, hr, sh, hlen, hcn, hlv, hfe, hup⟩
  · have SH := Lib.hid sh
    have HT := Lib.hid (hgtS_none hT hrt)
    rw [hrt] at hsl
    simp only [ptr, Option.map_none] at hsl
    clear hT
    clear b1 Ha B0 ht sh hrt
    go_wp2_with fail
    refine (btHeight_walk0 _ _ hsl).mono ?_
    rintro e w2 ⟨rfl, q, rfl⟩
    go_wp2_with fail
    go_ret
    exact ⟨[], 0, rfl, SH.out, HT.out, Below.drewN' B1.out q⟩
  · have SH := Lib.hid sh
    have HT := Lib.hid (hgtS_some hT hrt S hr)
    rw [hrt] at hsl
    simp only [ptr, Option.map_some] at hsl
    clear hT
    have C0 := Lib.hid (btHeight_walk1 S HS.out hr hlv hsl)
    clear b1 Ha B0 ht sh hrt hlen hcn hfe hup hr hlv
    go_wp2_with fail
    refine C0.out.mono ?_
    rintro e w2 ⟨rfl, q, rfl⟩
    go_wp2_with fail
    go_ret
    exact ⟨_, r.lv + 1, rfl, SH.out, HT.out, Below.drewN' B1.out q⟩
end Go.Proofs.Ytgakapigpiaoiaa.Bt
